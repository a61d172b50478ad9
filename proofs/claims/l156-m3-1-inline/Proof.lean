import JvmDerived
import JvmDerived.Pilot.@@N@@Statement
import JvmDerived.Pilot.@@N@@Code
set_option linter.unusedVariables false
set_option linter.unusedSimpArgs false
set_option maxRecDepth 65536
set_option maxHeartbeats 40000000
namespace Jvm.Pilot.@@N@@
open Jvm Jvm.ClassFile Sem Op Lib Jvm.Free Jvm.Stand Jvm.LawKit Jvm.RoadKit Bundle Jvm.Pilot.@@N@@.Jvm.D
theorem o_w0 {Z : State} {a0 : Array Value} (hw : ∀ d ∈ tables_1, d.before a0 Z = true) : (Jvm.Cond.classLink "com/example/orderly_storefront/orderlystorefront/cart/CartExceptionInvalidQuantityPinLaw" (7 : Nat) "java/lang/String").before a0 Z = true := hw _ (List.mem_of_getElem? (i := 0) rfl)
theorem o_w1 {Z : State} {a0 : Array Value} (hw : ∀ d ∈ tables_1, d.before a0 Z = true) : (Jvm.Cond.instantiable "java/lang/String" (4 : Nat)).before a0 Z = true := hw _ (List.mem_of_getElem? (i := 1) rfl)
theorem o_w2 {Z : State} {a0 : Array Value} (hw : ∀ d ∈ tables_1, d.before a0 Z = true) : (Jvm.Cond.initialized "java/lang/String").before a0 Z = true := hw _ (List.mem_of_getElem? (i := 2) rfl)
theorem o_w11 {Z : State} {a0 : Array Value} (hw : ∀ d ∈ tables_1, d.before a0 Z = true) : (Jvm.Cond.methodLink "java/lang/String" (1 : Nat) ({ cls := "java/lang/Object", name := "<init>", desc := "()V" } : Jvm.MethodName)).before a0 Z = true := hw _ (List.mem_of_getElem? (i := 11) rfl)
theorem o_w12 {Z : State} {a0 : Array Value} (hw : ∀ d ∈ tables_1, d.before a0 Z = true) : (Jvm.Cond.instanceMethod ({ cls := "java/lang/Object", name := "<init>", desc := "()V" } : Jvm.MethodName)).before a0 Z = true := hw _ (List.mem_of_getElem? (i := 12) rfl)
theorem o_w13 {Z : State} {a0 : Array Value} (hw : ∀ d ∈ tables_1, d.before a0 Z = true) : (Jvm.Cond.code ({ cls := "java/lang/Object", name := "<init>", desc := "()V" } : Jvm.MethodName) object_method_1_code (1 : Nat) (Option.none : Option Jvm.ClassFile.FieldType)).before a0 Z = true := hw _ (List.mem_of_getElem? (i := 13) rfl)
theorem o_w16 {Z : State} {a0 : Array Value} (hw : ∀ d ∈ tables_1, d.before a0 Z = true) : (Jvm.Cond.laysFinal "java/lang/String" "java/lang/String" "value" "[B").before a0 Z = true := hw _ (List.mem_of_getElem? (i := 16) rfl)
theorem o_w17 {Z : State} {a0 : Array Value} (hw : ∀ d ∈ tables_1, d.before a0 Z = true) : (Jvm.Cond.laysFinal "java/lang/String" "java/lang/String" "coder" "B").before a0 Z = true := hw _ (List.mem_of_getElem? (i := 17) rfl)
theorem o_w20 {Z : State} {a0 : Array Value} (hw : ∀ d ∈ tables_1, d.before a0 Z = true) : (Jvm.Cond.fieldLink "java/lang/String" (9 : Nat) "java/lang/String" "value" "[B").before a0 Z = true := hw _ (List.mem_of_getElem? (i := 20) rfl)
theorem o_w21 {Z : State} {a0 : Array Value} (hw : ∀ d ∈ tables_1, d.before a0 Z = true) : (Jvm.Cond.fieldLink "java/lang/String" (15 : Nat) "java/lang/String" "coder" "B").before a0 Z = true := hw _ (List.mem_of_getElem? (i := 21) rfl)
theorem o_w24 {Z : State} {a0 : Array Value} (hw : ∀ d ∈ tables_1, d.before a0 Z = true) : (Jvm.Cond.initialized "com/example/orderly_storefront/orderlystorefront/cart/CartException").before a0 Z = true := hw _ (List.mem_of_getElem? (i := 24) rfl)
theorem o_w27 {Z : State} {a0 : Array Value} (hw : ∀ d ∈ tables_1, d.before a0 Z = true) : (Jvm.Cond.instantiable "com/example/orderly_storefront/orderlystorefront/cart/CartException" (7 : Nat)).before a0 Z = true := hw _ (List.mem_of_getElem? (i := 27) rfl)
theorem o_w32 {Z : State} {a0 : Array Value} (hw : ∀ d ∈ tables_1, d.before a0 Z = true) : (Jvm.Cond.instantiable "java/lang/StringBuilder" (4 : Nat)).before a0 Z = true := hw _ (List.mem_of_getElem? (i := 32) rfl)
theorem o_w33 {Z : State} {a0 : Array Value} (hw : ∀ d ∈ tables_1, d.before a0 Z = true) : (Jvm.Cond.initialized "java/lang/StringBuilder").before a0 Z = true := hw _ (List.mem_of_getElem? (i := 33) rfl)
theorem o_w41 {Z : State} {a0 : Array Value} (hw : ∀ d ∈ tables_1, d.before a0 Z = true) : (Jvm.Cond.initialized "java/lang/AbstractStringBuilder").before a0 Z = true := hw _ (List.mem_of_getElem? (i := 41) rfl)
theorem o_w45 {Z : State} {a0 : Array Value} (hw : ∀ d ∈ tables_1, d.before a0 Z = true) : (Jvm.Cond.fieldLink "java/lang/AbstractStringBuilder" (15 : Nat) "java/lang/AbstractStringBuilder" "value" "[B").before a0 Z = true := hw _ (List.mem_of_getElem? (i := 45) rfl)
theorem o_w46 {Z : State} {a0 : Array Value} (hw : ∀ d ∈ tables_1, d.before a0 Z = true) : (Jvm.Cond.lays "java/lang/StringBuilder" "java/lang/AbstractStringBuilder" "value" "[B").before a0 Z = true := hw _ (List.mem_of_getElem? (i := 46) rfl)
theorem o_w47 {Z : State} {a0 : Array Value} (hw : ∀ d ∈ tables_1, d.before a0 Z = true) : (Jvm.Cond.fieldLink "java/lang/AbstractStringBuilder" (22 : Nat) "java/lang/AbstractStringBuilder" "coder" "B").before a0 Z = true := hw _ (List.mem_of_getElem? (i := 47) rfl)
theorem o_w48 {Z : State} {a0 : Array Value} (hw : ∀ d ∈ tables_1, d.before a0 Z = true) : (Jvm.Cond.lays "java/lang/StringBuilder" "java/lang/AbstractStringBuilder" "coder" "B").before a0 Z = true := hw _ (List.mem_of_getElem? (i := 48) rfl)
theorem o_w49 {Z : State} {a0 : Array Value} (hw : ∀ d ∈ tables_1, d.before a0 Z = true) : (Jvm.Cond.stringLink "com/example/orderly_storefront/orderlystorefront/cart/CartException" (25 : Nat) "A line holds an integer from 1 to 1000000 of its variant, not ").before a0 Z = true := hw _ (List.mem_of_getElem? (i := 49) rfl)
theorem o_w50 {Z : State} {a0 : Array Value} (hw : ∀ d ∈ tables_1, d.before a0 Z = true) : (Jvm.Cond.methodLink "com/example/orderly_storefront/orderlystorefront/cart/CartException" (27 : Nat) ({ cls := "java/lang/StringBuilder", name := "append", desc := "(Ljava/lang/String;)Ljava/lang/StringBuilder;" } : Jvm.MethodName)).before a0 Z = true := hw _ (List.mem_of_getElem? (i := 50) rfl)
theorem o_w51 {Z : State} {a0 : Array Value} (hw : ∀ d ∈ tables_1, d.before a0 Z = true) : (Jvm.Cond.declares ({ cls := "java/lang/StringBuilder", name := "append", desc := "(Ljava/lang/String;)Ljava/lang/StringBuilder;" } : Jvm.MethodName)).before a0 Z = true := hw _ (List.mem_of_getElem? (i := 51) rfl)
theorem o_w52 {Z : State} {a0 : Array Value} (hw : ∀ d ∈ tables_1, d.before a0 Z = true) : (Jvm.Cond.instanceMethod ({ cls := "java/lang/StringBuilder", name := "append", desc := "(Ljava/lang/String;)Ljava/lang/StringBuilder;" } : Jvm.MethodName)).before a0 Z = true := hw _ (List.mem_of_getElem? (i := 52) rfl)
theorem o_w53 {Z : State} {a0 : Array Value} (hw : ∀ d ∈ tables_1, d.before a0 Z = true) : (Jvm.Cond.selects "java/lang/StringBuilder" ({ cls := "java/lang/StringBuilder", name := "append", desc := "(Ljava/lang/String;)Ljava/lang/StringBuilder;" } : Jvm.MethodName) ({ cls := "java/lang/StringBuilder", name := "append", desc := "(Ljava/lang/String;)Ljava/lang/StringBuilder;" } : Jvm.MethodName)).before a0 Z = true := hw _ (List.mem_of_getElem? (i := 53) rfl)
theorem o_w54 {Z : State} {a0 : Array Value} (hw : ∀ d ∈ tables_1, d.before a0 Z = true) : (Jvm.Cond.code ({ cls := "java/lang/StringBuilder", name := "append", desc := "(Ljava/lang/String;)Ljava/lang/StringBuilder;" } : Jvm.MethodName) jdk_67_method_7_code (2 : Nat) (Option.some (Jvm.ClassFile.FieldType.object "java/lang/StringBuilder"))).before a0 Z = true := hw _ (List.mem_of_getElem? (i := 54) rfl)
theorem o_w57 {Z : State} {a0 : Array Value} (hw : ∀ d ∈ tables_1, d.before a0 Z = true) : (Jvm.Cond.superclass "java/lang/StringBuilder" "java/lang/AbstractStringBuilder").before a0 Z = true := hw _ (List.mem_of_getElem? (i := 57) rfl)
theorem o_w58 {Z : State} {a0 : Array Value} (hw : ∀ d ∈ tables_1, d.before a0 Z = true) : (Jvm.Cond.declares ({ cls := "java/lang/AbstractStringBuilder", name := "append", desc := "(Ljava/lang/String;)Ljava/lang/AbstractStringBuilder;" } : Jvm.MethodName)).before a0 Z = true := hw _ (List.mem_of_getElem? (i := 58) rfl)
theorem o_w60 {Z : State} {a0 : Array Value} (hw : ∀ d ∈ tables_1, d.before a0 Z = true) : (Jvm.Cond.methodLink "java/lang/AbstractStringBuilder" (32 : Nat) ({ cls := "java/lang/String", name := "length", desc := "()I" } : Jvm.MethodName)).before a0 Z = true := hw _ (List.mem_of_getElem? (i := 60) rfl)
theorem o_w61 {Z : State} {a0 : Array Value} (hw : ∀ d ∈ tables_1, d.before a0 Z = true) : (Jvm.Cond.declares ({ cls := "java/lang/String", name := "length", desc := "()I" } : Jvm.MethodName)).before a0 Z = true := hw _ (List.mem_of_getElem? (i := 61) rfl)
theorem o_w62 {Z : State} {a0 : Array Value} (hw : ∀ d ∈ tables_1, d.before a0 Z = true) : (Jvm.Cond.instanceMethod ({ cls := "java/lang/String", name := "length", desc := "()I" } : Jvm.MethodName)).before a0 Z = true := hw _ (List.mem_of_getElem? (i := 62) rfl)
theorem o_w63 {Z : State} {a0 : Array Value} (hw : ∀ d ∈ tables_1, d.before a0 Z = true) : (Jvm.Cond.selects "java/lang/String" ({ cls := "java/lang/String", name := "length", desc := "()I" } : Jvm.MethodName) ({ cls := "java/lang/String", name := "length", desc := "()I" } : Jvm.MethodName)).before a0 Z = true := hw _ (List.mem_of_getElem? (i := 63) rfl)
theorem o_w65 {Z : State} {a0 : Array Value} (hw : ∀ d ∈ tables_1, d.before a0 Z = true) : (Jvm.Cond.methodLink "java/lang/String" (335 : Nat) ({ cls := "java/lang/String", name := "coder", desc := "()B" } : Jvm.MethodName)).before a0 Z = true := hw _ (List.mem_of_getElem? (i := 65) rfl)
theorem o_w66 {Z : State} {a0 : Array Value} (hw : ∀ d ∈ tables_1, d.before a0 Z = true) : (Jvm.Cond.declares ({ cls := "java/lang/String", name := "coder", desc := "()B" } : Jvm.MethodName)).before a0 Z = true := hw _ (List.mem_of_getElem? (i := 66) rfl)
theorem o_w67 {Z : State} {a0 : Array Value} (hw : ∀ d ∈ tables_1, d.before a0 Z = true) : (Jvm.Cond.instanceMethod ({ cls := "java/lang/String", name := "coder", desc := "()B" } : Jvm.MethodName)).before a0 Z = true := hw _ (List.mem_of_getElem? (i := 67) rfl)
theorem o_w68 {Z : State} {a0 : Array Value} (hw : ∀ d ∈ tables_1, d.before a0 Z = true) : (Jvm.Cond.selects "java/lang/String" ({ cls := "java/lang/String", name := "coder", desc := "()B" } : Jvm.MethodName) ({ cls := "java/lang/String", name := "coder", desc := "()B" } : Jvm.MethodName)).before a0 Z = true := hw _ (List.mem_of_getElem? (i := 68) rfl)
theorem o_w69 {Z : State} {a0 : Array Value} (hw : ∀ d ∈ tables_1, d.before a0 Z = true) : (Jvm.Cond.code ({ cls := "java/lang/String", name := "coder", desc := "()B" } : Jvm.MethodName) jdk_42_method_152_code (1 : Nat) (Option.some Jvm.ClassFile.FieldType.byte)).before a0 Z = true := hw _ (List.mem_of_getElem? (i := 69) rfl)
theorem o_w70 {Z : State} {a0 : Array Value} (hw : ∀ d ∈ tables_1, d.before a0 Z = true) : (Jvm.Cond.fieldLink "java/lang/String" (38 : Nat) "java/lang/String" "COMPACT_STRINGS" "Z").before a0 Z = true := hw _ (List.mem_of_getElem? (i := 70) rfl)
theorem o_w71 {Z : State} {a0 : Array Value} (hw : ∀ d ∈ tables_1, d.before a0 Z = true) : (Jvm.Cond.fieldLink "java/lang/AbstractStringBuilder" (79 : Nat) "java/lang/AbstractStringBuilder" "count" "I").before a0 Z = true := hw _ (List.mem_of_getElem? (i := 71) rfl)
theorem o_w72 {Z : State} {a0 : Array Value} (hw : ∀ d ∈ tables_1, d.before a0 Z = true) : (Jvm.Cond.lays "java/lang/StringBuilder" "java/lang/AbstractStringBuilder" "count" "I").before a0 Z = true := hw _ (List.mem_of_getElem? (i := 72) rfl)
theorem o_w74 {Z : State} {a0 : Array Value} (hw : ∀ d ∈ tables_1, d.before a0 Z = true) : (Jvm.Cond.instanceMethod ({ cls := "java/lang/AbstractStringBuilder", name := "ensureCapacityInternal", desc := "(I)V" } : Jvm.MethodName)).before a0 Z = true := hw _ (List.mem_of_getElem? (i := 74) rfl)
theorem o_w75 {Z : State} {a0 : Array Value} (hw : ∀ d ∈ tables_1, d.before a0 Z = true) : (Jvm.Cond.privateMethod ({ cls := "java/lang/AbstractStringBuilder", name := "ensureCapacityInternal", desc := "(I)V" } : Jvm.MethodName)).before a0 Z = true := hw _ (List.mem_of_getElem? (i := 75) rfl)
theorem o_w76 {Z : State} {a0 : Array Value} (hw : ∀ d ∈ tables_1, d.before a0 Z = true) : (Jvm.Cond.selects "java/lang/StringBuilder" ({ cls := "java/lang/AbstractStringBuilder", name := "ensureCapacityInternal", desc := "(I)V" } : Jvm.MethodName) ({ cls := "java/lang/AbstractStringBuilder", name := "ensureCapacityInternal", desc := "(I)V" } : Jvm.MethodName)).before a0 Z = true := hw _ (List.mem_of_getElem? (i := 76) rfl)
theorem o_w89 {Z : State} {a0 : Array Value} (hw : ∀ d ∈ tables_1, d.before a0 Z = true) : (Jvm.Cond.initialized "java/lang/Math").before a0 Z = true := hw _ (List.mem_of_getElem? (i := 89) rfl)
theorem o_w95 {Z : State} {a0 : Array Value} (hw : ∀ d ∈ tables_1, d.before a0 Z = true) : (Jvm.Cond.initialized "java/util/Arrays").before a0 Z = true := hw _ (List.mem_of_getElem? (i := 95) rfl)
theorem o_w101 {Z : State} {a0 : Array Value} (hw : ∀ d ∈ tables_1, d.before a0 Z = true) : (Jvm.Cond.static ({ cls := "java/lang/System", name := "arraycopy", desc := "(Ljava/lang/Object;ILjava/lang/Object;II)V" } : Jvm.MethodName)).before a0 Z = true := hw _ (List.mem_of_getElem? (i := 101) rfl)
theorem o_w102 {Z : State} {a0 : Array Value} (hw : ∀ d ∈ tables_1, d.before a0 Z = true) : (Jvm.Cond.initialized "java/lang/System").before a0 Z = true := hw _ (List.mem_of_getElem? (i := 102) rfl)
theorem o_w103 {Z : State} {a0 : Array Value} (hw : ∀ d ∈ tables_1, d.before a0 Z = true) : (Jvm.Cond.native ({ cls := "java/lang/System", name := "arraycopy", desc := "(Ljava/lang/Object;ILjava/lang/Object;II)V" } : Jvm.MethodName)).before a0 Z = true := hw _ (List.mem_of_getElem? (i := 103) rfl)
theorem o_w105 {Z : State} {a0 : Array Value} (hw : ∀ d ∈ tables_1, d.before a0 Z = true) : (Jvm.Cond.instanceMethod ({ cls := "java/lang/AbstractStringBuilder", name := "putStringAt", desc := "(ILjava/lang/String;)V" } : Jvm.MethodName)).before a0 Z = true := hw _ (List.mem_of_getElem? (i := 105) rfl)
theorem o_w106 {Z : State} {a0 : Array Value} (hw : ∀ d ∈ tables_1, d.before a0 Z = true) : (Jvm.Cond.privateMethod ({ cls := "java/lang/AbstractStringBuilder", name := "putStringAt", desc := "(ILjava/lang/String;)V" } : Jvm.MethodName)).before a0 Z = true := hw _ (List.mem_of_getElem? (i := 106) rfl)
theorem o_w110 {Z : State} {a0 : Array Value} (hw : ∀ d ∈ tables_1, d.before a0 Z = true) : (Jvm.Cond.instanceMethod ({ cls := "java/lang/AbstractStringBuilder", name := "inflateIfNeededFor", desc := "(Ljava/lang/String;)V" } : Jvm.MethodName)).before a0 Z = true := hw _ (List.mem_of_getElem? (i := 110) rfl)
theorem o_w111 {Z : State} {a0 : Array Value} (hw : ∀ d ∈ tables_1, d.before a0 Z = true) : (Jvm.Cond.privateMethod ({ cls := "java/lang/AbstractStringBuilder", name := "inflateIfNeededFor", desc := "(Ljava/lang/String;)V" } : Jvm.MethodName)).before a0 Z = true := hw _ (List.mem_of_getElem? (i := 111) rfl)
theorem o_w115 {Z : State} {a0 : Array Value} (hw : ∀ d ∈ tables_1, d.before a0 Z = true) : (Jvm.Cond.methodLink "java/lang/AbstractStringBuilder" (399 : Nat) ({ cls := "java/lang/String", name := "getBytes", desc := "([BIB)V" } : Jvm.MethodName)).before a0 Z = true := hw _ (List.mem_of_getElem? (i := 115) rfl)
theorem o_w116 {Z : State} {a0 : Array Value} (hw : ∀ d ∈ tables_1, d.before a0 Z = true) : (Jvm.Cond.declares ({ cls := "java/lang/String", name := "getBytes", desc := "([BIB)V" } : Jvm.MethodName)).before a0 Z = true := hw _ (List.mem_of_getElem? (i := 116) rfl)
theorem o_w117 {Z : State} {a0 : Array Value} (hw : ∀ d ∈ tables_1, d.before a0 Z = true) : (Jvm.Cond.instanceMethod ({ cls := "java/lang/String", name := "getBytes", desc := "([BIB)V" } : Jvm.MethodName)).before a0 Z = true := hw _ (List.mem_of_getElem? (i := 117) rfl)
theorem o_w118 {Z : State} {a0 : Array Value} (hw : ∀ d ∈ tables_1, d.before a0 Z = true) : (Jvm.Cond.selects "java/lang/String" ({ cls := "java/lang/String", name := "getBytes", desc := "([BIB)V" } : Jvm.MethodName) ({ cls := "java/lang/String", name := "getBytes", desc := "([BIB)V" } : Jvm.MethodName)).before a0 Z = true := hw _ (List.mem_of_getElem? (i := 118) rfl)
theorem o_w121 {Z : State} {a0 : Array Value} (hw : ∀ d ∈ tables_1, d.before a0 Z = true) : (Jvm.Cond.stringLink "com/example/orderly_storefront/orderlystorefront/cart/CartException" (31 : Nat) ".").before a0 Z = true := hw _ (List.mem_of_getElem? (i := 121) rfl)
theorem o_w150 {Z : State} {a0 : Array Value} (hw : ∀ d ∈ tables_1, d.before a0 Z = true) : (Jvm.Cond.selects "java/lang/StringBuilder" ({ cls := "java/lang/AbstractStringBuilder", name := "isLatin1", desc := "()Z" } : Jvm.MethodName) ({ cls := "java/lang/AbstractStringBuilder", name := "isLatin1", desc := "()Z" } : Jvm.MethodName)).before a0 Z = true := hw _ (List.mem_of_getElem? (i := 150) rfl)
theorem o_w173 {Z : State} {a0 : Array Value} (hw : ∀ d ∈ tables_1, d.before a0 Z = true) : (Jvm.Cond.initialized "java/lang/Throwable").before a0 Z = true := hw _ (List.mem_of_getElem? (i := 173) rfl)
theorem o_w177 {Z : State} {a0 : Array Value} (hw : ∀ d ∈ tables_1, d.before a0 Z = true) : (Jvm.Cond.lays "com/example/orderly_storefront/orderlystorefront/cart/CartException" "java/lang/Throwable" "cause" "Ljava/lang/Throwable;").before a0 Z = true := hw _ (List.mem_of_getElem? (i := 177) rfl)
theorem o_w180 {Z : State} {a0 : Array Value} (hw : ∀ d ∈ tables_1, d.before a0 Z = true) : (Jvm.Cond.lays "com/example/orderly_storefront/orderlystorefront/cart/CartException" "java/lang/Throwable" "stackTrace" "[Ljava/lang/StackTraceElement;").before a0 Z = true := hw _ (List.mem_of_getElem? (i := 180) rfl)
theorem o_w183 {Z : State} {a0 : Array Value} (hw : ∀ d ∈ tables_1, d.before a0 Z = true) : (Jvm.Cond.lays "com/example/orderly_storefront/orderlystorefront/cart/CartException" "java/lang/Throwable" "suppressedExceptions" "Ljava/util/List;").before a0 Z = true := hw _ (List.mem_of_getElem? (i := 183) rfl)
theorem o_w185 {Z : State} {a0 : Array Value} (hw : ∀ d ∈ tables_1, d.before a0 Z = true) : (Jvm.Cond.lays "com/example/orderly_storefront/orderlystorefront/cart/CartException" "java/lang/Throwable" "detailMessage" "Ljava/lang/String;").before a0 Z = true := hw _ (List.mem_of_getElem? (i := 185) rfl)
theorem o_w187 {Z : State} {a0 : Array Value} (hw : ∀ d ∈ tables_1, d.before a0 Z = true) : (Jvm.Cond.laysFinal "com/example/orderly_storefront/orderlystorefront/cart/CartException" "com/example/orderly_storefront/orderlystorefront/cart/CartException" "reason" "Lcom/example/orderly_storefront/orderlystorefront/cart/CartException$Reason;").before a0 Z = true := hw _ (List.mem_of_getElem? (i := 187) rfl)
theorem o_w194 {Z : State} {a0 : Array Value} (hw : ∀ d ∈ tables_1, d.before a0 Z = true) : (Jvm.Cond.stringLink "com/example/orderly_storefront/orderlystorefront/cart/CartExceptionInvalidQuantityPinLaw" (28 : Nat) "A line holds an integer from 1 to 1000000 of its variant, not .").before a0 Z = true := hw _ (List.mem_of_getElem? (i := 194) rfl)
theorem o_w209 {Z : State} {a0 : Array Value} (hw : ∀ d ∈ tables_1, d.before a0 Z = true) : (Jvm.Cond.initialized "java/lang/StringLatin1").before a0 Z = true := hw _ (List.mem_of_getElem? (i := 209) rfl)
theorem o_w213 {Z : State} {a0 : Array Value} (hw : ∀ d ∈ tables_1, d.before a0 Z = true) : (Jvm.Cond.initialized "java/lang/StringUTF16").before a0 Z = true := hw _ (List.mem_of_getElem? (i := 213) rfl)
theorem o_w269 {Z : State} {a0 : Array Value} (hw : ∀ d ∈ tables_1, d.before a0 Z = true) : (Jvm.Cond.lays "java/lang/StringBuilder" "java/lang/AbstractStringBuilder" "maybeLatin1" "Z").before a0 Z = true := hw _ (List.mem_of_getElem? (i := 269) rfl)
def o_Go (tb : Tables) (e : Env) (below : List Frame) (P : State → Outcome → Prop) (T : State) (g : JFrame) : Prop := ∃ t o, Steps tb e below (T.setTop g) t ∧ P t o
theorem o_go {tb : Tables} {e : Env} {below : List Frame} {P : State → Outcome → Prop} {T T' : State} {g g' : JFrame} (k : ∀ target, Steps tb e below (T'.setTop g') target → Steps tb e below (T.setTop g) target) (h : o_Go tb e below P T' g') : o_Go tb e below P T g := by
  obtain ⟨t, o, a, b⟩ := h
  exact ⟨t, o, k t a, b⟩
def o_upd (f : Nat → Value) (k : Nat) (v : Value) : Nat → Value := fun i => if i = k then v else f i
/-- an array of length z at a, its element i being f i -/
def o_AV (Z : State) (h : Heap) (a : Addr) (ty : FieldType) (z : Int32) (f : Nat → Value) : Prop := ¬ z < 0 ∧ ∃ c : Cell, Arr Z h a c ty ∧ c.slots.size = z.toNatClampNeg ∧ ∀ i, i < c.slots.size → c.slots[i]? = some (f i)
section
variable {Z : State} {h h' : Heap} {a b : Addr} {ty : FieldType} {z j : Int32} {f : Nat → Value} {v w : Value} {sl k : Nat} {ws : List Addr} {cA : ClassId}
theorem o_AV.lt (F : o_AV Z h a ty z f) : a < h.size := by obtain ⟨_, c, A, -⟩ := F; exact A.lt
theorem o_AV.ext (F : o_AV Z h a ty z f) (E : Ext h h') : o_AV Z h' a ty z f := by obtain ⟨q, c, A, r⟩ := F; exact ⟨q, c, A.ext E, r⟩
theorem o_AV.other (F : o_AV Z h b ty z f) (W : Wr h h' a sl v) (q : b ≠ a) : o_AV Z h' b ty z f := by obtain ⟨q1, c, A, r⟩ := F; exact ⟨q1, c, A.other W q, r⟩
theorem o_AV.keep (F : o_AV Z h a ty z f) (K : Keep h h' ws) (q : a ∉ ws) : o_AV Z h' a ty z f := by obtain ⟨q1, c, A, r⟩ := F; exact ⟨q1, c, ⟨K.2.1 a c A.1 q, A.2⟩, r⟩
theorem o_AV.new (A : Arr Z h a (newA cA ty z) ty) (q : ¬ z < 0) : o_AV Z h a ty z (fun _ => defaultValue ty) :=
  ⟨q, _, A, sz_new _ _ _, fun i hi => by
    rw [sz_new] at hi
    simp [newA, hi]⟩
theorem o_AV.set (F : o_AV Z h a ty z f) (W : Wr h h' a j.toNatClampNeg v) (hk : j.toNatClampNeg = k) : o_AV Z h' a ty z (o_upd f k v) := by
  obtain ⟨q, c, A, s, t⟩ := F
  subst hk
  refine ⟨q, _, A.same W, by rw [sz_set]; exact s, fun i hi => ?_⟩
  rw [sz_set] at hi
  by_cases e : i = j.toNatClampNeg
  · subst e; simp [o_upd, Cell.setSlot, hi]
  · simp only [o_upd, if_neg e, Cell.setSlot]
    rw [Array.getElem?_setIfInBounds_ne (Ne.symm e)]; exact t i hi
theorem o_at {c : Cell} (t : ∀ i, i < c.slots.size → c.slots[i]? = some (f i)) (s : c.slots.size = z.toNatClampNeg) (hin : ¬ (j < 0 ∨ c.slots.size ≤ j.toNatClampNeg)) (hk : j.toNatClampNeg = k) (hv : f k = v) : c.slots[j.toNatClampNeg]? = some v := by
  rw [t _ (Nat.lt_of_not_le fun q => hin (Or.inr q)), hk, hv]
theorem o_sta_keep {C n d : String} (F : Sta Z h C n d w) (K : Keep h h' ws) (q : ∀ x ∈ ws, ∀ c : Cell, h[x]? = some c → c.vm.isStatics = false) : Sta Z h' C n d w := by
  obtain ⟨cf, i, k, f, st, cell, h1, h2, h3, h4, h5, h6, h7⟩ := F
  exact ⟨cf, i, k, f, st, cell, h1, h2, h3, h4, K.2.1 st cell h5 (fun m => by rw [q st m cell h5] at h6; cases h6), h6, h7⟩
theorem o_exa_plain {C : String} (F : Exa Z h a C) : ∀ c : Cell, h[a]? = some c → c.vm.isStatics = false := fun c hc => by
  obtain ⟨c1, k, h1, -, -, h4, -⟩ := F; cases h1.symm.trans hc; exact h4
theorem o_AV.plain (F : o_AV Z h a ty z f) : ∀ c : Cell, h[a]? = some c → c.vm.isStatics = false := fun c hc => by
  obtain ⟨_, c1, A, -⟩ := F; cases A.1.symm.trans hc; exact A.plain
end
theorem o_exa_ref {args : Array Value} {s : State} {t : Term} {C : String} (hx : (Jvm.Cond.exactly t C).value args s none s [] = some true) : ∃ a, t.eval args s none [] s = some (.ref a) ∧ Exa s s.heap a C := by
  obtain ⟨a', c', cell, k, e1, -⟩ := Cond.exactly_spec (Cond.before_iff.mpr hx)
  exact ⟨a', e1, Exa.start e1 hx⟩
theorem o_eq_int {args : Array Value} {s : State} {t : Term} {k : Int32} (h : (Jvm.Cond.eq t (Jvm.Term.int k)).value args s none s [] = some true) : t.eval args s none [] s = some (.int k) := by
  cases hv : t.eval args s none [] s with
  | none => simp [Cond.value, hv] at h
  | some v => cases v <;> simp [Cond.value, hv, Term.eval] at h <;> simp [h]
theorem o_fld_int {args : Array Value} {s : State} {t : Term} {C n d : String} {a : Addr} {k : Int32} (ev : t.eval args s none [] s = some (.ref a)) (h : (Jvm.Cond.eq (Jvm.Term.field t C n d) (Jvm.Term.int k)).value args s none s [] = some true) : Fld s s.heap a C n d (.int k) :=
  Fld.start ((fld_at ev).symm.trans (o_eq_int h))
theorem o_nar_c (x : Int32) : nar .char (x.toUInt32.toUInt16.toUInt32.toInt32) = x.toUInt32.toUInt16.toUInt32.toInt32 := Value.int.inj (Jvm.Free.XT.narrow_c x)
theorem o_nar_b (x : Int32) : nar .byte (x.toInt8.toInt32) = x.toInt8.toInt32 := Value.int.inj (Jvm.Free.XT.narrow_b x)
theorem o_monoW {s t : State} {o : Outcome} {L : List Loc} {k n k' n' : Nat} (h : ReturnedEndW s o t L k n) (hk : k ≤ k') (hn : n ≤ n') : ReturnedEndW s o t L k' n' := ⟨h.1, h.2.1, h.2.2.1, h.2.2.2.mono hk hn⟩
theorem o_lt {a b : Nat} (h : a < b) : a < b := h
theorem o_ne {a b : Nat} (h : a < b ∨ b < a) : a ≠ b := by omega
def o_lts : List Nat → Prop
  | a :: b :: r => a < b ∧ o_lts (b :: r)
  | _ => True

theorem o_pn0 : plainName "java/lang/StringUTF16" = true := by first | (simp [plainName, overriddenIn]; done) | decide +kernel
theorem o_pn1 : plainName "java/lang/StringLatin1" = true := by first | (simp [plainName, overriddenIn]; done) | decide +kernel
theorem o_pn2 : plainName "java/lang/String" = true := by first | (simp [plainName, overriddenIn]; done) | decide +kernel
theorem o_pn3 : plainName "java/lang/AbstractStringBuilder" = true := by first | (simp [plainName, overriddenIn]; done) | decide +kernel
theorem o_pn4 : plainName "java/lang/StringBuilder" = true := by first | (simp [plainName, overriddenIn]; done) | decide +kernel
theorem o_pn5 : plainName "jdk/internal/util/ArraysSupport" = true := by first | (simp [plainName, overriddenIn]; done) | decide +kernel
theorem o_pn6 : plainName "java/util/Arrays" = true := by first | (simp [plainName, overriddenIn]; done) | decide +kernel
theorem o_pn7 : plainName "java/lang/Throwable" = true := by first | (simp [plainName, overriddenIn]; done) | decide +kernel
theorem o_pn8 : plainName "java/lang/Exception" = true := by first | (simp [plainName, overriddenIn]; done) | decide +kernel
theorem o_pn9 : plainName "com/example/orderly_storefront/orderlystorefront/cart/CartException" = true := by first | (simp [plainName, overriddenIn]; done) | decide +kernel
theorem o_pn10 : plainName "jdk/internal/util/Preconditions" = true := by first | (simp [plainName, overriddenIn]; done) | decide +kernel
theorem o_pn11 : plainName "com/example/orderly_storefront/orderlystorefront/cart/CartExceptionInvalidQuantityPinLaw" = true := by first | (simp [plainName, overriddenIn]; done) | decide +kernel
theorem o_pd0 : parseMethodDescriptor "([B[B)Z" = some ⟨[(.array .byte), (.array .byte)], some .boolean⟩ := by decide +kernel
theorem o_pd1 : parseMethodDescriptor "([CI[BII)I" = some ⟨[(.array .char), .int, (.array .byte), .int, .int], some .int⟩ := by decide +kernel
theorem o_pd2 : parseMethodDescriptor "([CII)[B" = some ⟨[(.array .char), .int, .int], some (.array .byte)⟩ := by decide +kernel
theorem o_pd3 : parseMethodDescriptor "([BI)B" = some ⟨[(.array .byte), .int], some .byte⟩ := by decide +kernel
theorem o_pd4 : parseMethodDescriptor "([CIILjava/lang/Void;)V" = some ⟨[(.array .char), .int, .int, (.object "java/lang/Void")], none⟩ := by decide +kernel
theorem o_pd5 : parseMethodDescriptor "(I)I" = some ⟨[.int], some .int⟩ := by decide +kernel
theorem o_pd6 : parseMethodDescriptor "(I)[B" = some ⟨[.int], some (.array .byte)⟩ := by decide +kernel
theorem o_pd7 : parseMethodDescriptor "([BII)V" = some ⟨[(.array .byte), .int, .int], none⟩ := by decide +kernel
theorem o_pd8 : parseMethodDescriptor "([BI)C" = some ⟨[(.array .byte), .int], some .char⟩ := by decide +kernel
theorem o_pd9 : parseMethodDescriptor "(C)Z" = some ⟨[.char], some .boolean⟩ := by decide +kernel
theorem o_pd10 : parseMethodDescriptor "(C)[B" = some ⟨[.char], some (.array .byte)⟩ := by decide +kernel
theorem o_pd11 : parseMethodDescriptor "([BB)V" = some ⟨[(.array .byte), .byte], none⟩ := by decide +kernel
theorem o_pd12 : parseMethodDescriptor "(I)V" = some ⟨[.int], none⟩ := by decide +kernel
theorem o_pd13 : parseMethodDescriptor "()V" = some ⟨[], none⟩ := by decide +kernel
theorem o_pd14 : parseMethodDescriptor "()B" = some ⟨[], some .byte⟩ := by decide +kernel
theorem o_pd15 : parseMethodDescriptor "()I" = some ⟨[], some .int⟩ := by decide +kernel
theorem o_pd16 : parseMethodDescriptor "(II)I" = some ⟨[.int, .int], some .int⟩ := by decide +kernel
theorem o_pd17 : parseMethodDescriptor "(III)I" = some ⟨[.int, .int, .int], some .int⟩ := by decide +kernel
theorem o_pd18 : parseMethodDescriptor "([BI)[B" = some ⟨[(.array .byte), .int], some (.array .byte)⟩ := by decide +kernel
theorem o_pd19 : parseMethodDescriptor "(Ljava/lang/String;)V" = some ⟨[(.object "java/lang/String")], none⟩ := by decide +kernel
theorem o_pd20 : parseMethodDescriptor "([BIB)V" = some ⟨[(.array .byte), .int, .byte], none⟩ := by decide +kernel
theorem o_pd21 : parseMethodDescriptor "(ILjava/lang/String;)V" = some ⟨[.int, (.object "java/lang/String")], none⟩ := by decide +kernel
theorem o_pd22 : parseMethodDescriptor "(Ljava/lang/String;)Ljava/lang/AbstractStringBuilder;" = some ⟨[(.object "java/lang/String")], some (.object "java/lang/AbstractStringBuilder")⟩ := by decide +kernel
theorem o_pd23 : parseMethodDescriptor "(Ljava/lang/String;)Ljava/lang/StringBuilder;" = some ⟨[(.object "java/lang/String")], some (.object "java/lang/StringBuilder")⟩ := by decide +kernel
theorem o_pd24 : parseMethodDescriptor "()[B" = some ⟨[], some (.array .byte)⟩ := by decide +kernel
theorem o_pd25 : parseMethodDescriptor "()Z" = some ⟨[], some .boolean⟩ := by decide +kernel
theorem o_pd26 : parseMethodDescriptor "(II)V" = some ⟨[.int, .int], none⟩ := by decide +kernel
theorem o_pd27 : parseMethodDescriptor "([BII)[B" = some ⟨[(.array .byte), .int, .int], some (.array .byte)⟩ := by decide +kernel
theorem o_pd28 : parseMethodDescriptor "(Ljava/lang/AbstractStringBuilder;Ljava/lang/Void;)V" = some ⟨[(.object "java/lang/AbstractStringBuilder"), (.object "java/lang/Void")], none⟩ := by decide +kernel
theorem o_pd29 : parseMethodDescriptor "(Ljava/lang/StringBuilder;)V" = some ⟨[(.object "java/lang/StringBuilder")], none⟩ := by decide +kernel
theorem o_pd30 : parseMethodDescriptor "()Ljava/lang/String;" = some ⟨[], some (.object "java/lang/String")⟩ := by decide +kernel
theorem o_pd31 : parseMethodDescriptor "(Ljava/lang/String;Ljava/lang/Throwable;ZZ)V" = some ⟨[(.object "java/lang/String"), (.object "java/lang/Throwable"), .boolean, .boolean], none⟩ := by decide +kernel
theorem o_pd32 : parseMethodDescriptor "(Lcom/example/orderly_storefront/orderlystorefront/cart/CartException$Reason;Ljava/lang/String;)V" = some ⟨[(.object "com/example/orderly_storefront/orderlystorefront/cart/CartException$Reason"), (.object "java/lang/String")], none⟩ := by decide +kernel
theorem o_pd33 : parseMethodDescriptor "([B)I" = some ⟨[(.array .byte)], some .int⟩ := by decide +kernel
theorem o_pd34 : parseMethodDescriptor "(IIILjava/util/function/BiFunction;)I" = some ⟨[.int, .int, .int, (.object "java/util/function/BiFunction")], some .int⟩ := by decide +kernel
theorem o_pd35 : parseMethodDescriptor "(II[B)V" = some ⟨[.int, .int, (.array .byte)], none⟩ := by decide +kernel
theorem o_pd36 : parseMethodDescriptor "([BI[BII)V" = some ⟨[(.array .byte), .int, (.array .byte), .int, .int], none⟩ := by decide +kernel
theorem o_pd37 : parseMethodDescriptor "([C)V" = some ⟨[(.array .char)], none⟩ := by decide +kernel
theorem o_pd38 : parseMethodDescriptor "(Ljava/lang/String;)Lcom/example/orderly_storefront/orderlystorefront/cart/CartException;" = some ⟨[(.object "java/lang/String")], some (.object "com/example/orderly_storefront/orderlystorefront/cart/CartException")⟩ := by decide +kernel
theorem o_pd39 : parseMethodDescriptor "()Lcom/example/orderly_storefront/orderlystorefront/cart/CartException$Reason;" = some ⟨[], some (.object "com/example/orderly_storefront/orderlystorefront/cart/CartException$Reason")⟩ := by decide +kernel
theorem o_pd40 : parseMethodDescriptor "(Ljava/lang/Object;)Z" = some ⟨[(.object "java/lang/Object")], some .boolean⟩ := by decide +kernel
theorem o_pd41 : parseMethodDescriptor "(C)Ljava/lang/String;" = some ⟨[.char], some (.object "java/lang/String")⟩ := by decide +kernel
theorem o_wS {Z : State} {a0 : Array Value} (hw : ∀ d ∈ tables_1, d.before a0 Z = true) : ∀ a ∈ Bundle.stringAtoms, a.before a0 Z = true := fun d hd => by
  simp only [Bundle.stringAtoms, List.mem_cons, List.not_mem_nil, or_false] at hd
  rcases hd with rfl | rfl | rfl | rfl | rfl | rfl | rfl
  · exact hw _ (List.mem_of_getElem? (i := 2) rfl)
  · exact hw _ (List.mem_of_getElem? (i := 1) rfl)
  · exact hw _ (List.mem_of_getElem? (i := 15) rfl)
  · exact hw _ (List.mem_of_getElem? (i := 16) rfl)
  · exact hw _ (List.mem_of_getElem? (i := 17) rfl)
  · exact hw _ (List.mem_of_getElem? (i := 18) rfl)
  · exact hw _ (List.mem_of_getElem? (i := 19) rfl)
abbrev o_E0 (Z : State) (h : Heap) (a : Addr) : Prop := Exa Z h a "java/lang/String"
abbrev o_F1 (Z : State) (h : Heap) (a : Addr) (v : Value) : Prop := Fld Z h a "java/lang/String" "coder" "B" v
abbrev o_F2 (Z : State) (h : Heap) (a : Addr) (v : Value) : Prop := Fld Z h a "java/lang/String" "value" "[B" v
abbrev o_F3 (Z : State) (h : Heap) (a : Addr) (v : Value) : Prop := Fld Z h a "java/lang/Throwable" "cause" "Ljava/lang/Throwable;" v
abbrev o_F4 (Z : State) (h : Heap) (a : Addr) (v : Value) : Prop := Fld Z h a "java/lang/Throwable" "stackTrace" "[Ljava/lang/StackTraceElement;" v
abbrev o_F5 (Z : State) (h : Heap) (a : Addr) (v : Value) : Prop := Fld Z h a "java/lang/Throwable" "suppressedExceptions" "Ljava/util/List;" v
abbrev o_F6 (Z : State) (h : Heap) (a : Addr) (v : Value) : Prop := Fld Z h a "java/lang/Throwable" "detailMessage" "Ljava/lang/String;" v
abbrev o_F7 (Z : State) (h : Heap) (a : Addr) (v : Value) : Prop := Fld Z h a "com/example/orderly_storefront/orderlystorefront/cart/CartException" "reason" "Lcom/example/orderly_storefront/orderlystorefront/cart/CartException$Reason;" v
abbrev o_F8 (Z : State) (h : Heap) (a : Addr) (v : Value) : Prop := Fld Z h a "java/lang/AbstractStringBuilder" "value" "[B" v
abbrev o_F9 (Z : State) (h : Heap) (a : Addr) (v : Value) : Prop := Fld Z h a "java/lang/AbstractStringBuilder" "coder" "B" v
abbrev o_F10 (Z : State) (h : Heap) (a : Addr) (v : Value) : Prop := Fld Z h a "java/lang/AbstractStringBuilder" "count" "I" v
abbrev o_F11 (Z : State) (h : Heap) (a : Addr) (v : Value) : Prop := Fld Z h a "java/lang/AbstractStringBuilder" "maybeLatin1" "Z" v
abbrev o_E12 (Z : State) (h : Heap) (a : Addr) : Prop := Exa Z h a "java/lang/StringBuilder"
abbrev o_E13 (Z : State) (h : Heap) (a : Addr) : Prop := Exa Z h a "com/example/orderly_storefront/orderlystorefront/cart/CartException"
theorem o_AV.arv {Z : State} {h : Heap} {a : Addr} {ty : FieldType} {z : Int32} {f : Nat → Value} {d : Value} (F : o_AV Z h a ty z f) (hf : ∀ i, fits ty (f i) = true) : ∃ k, Arv Z h a k ty z ((List.range z.toNatClampNeg).map f) d := by
  obtain ⟨q, c, A, s, t⟩ := F
  refine ⟨c.cls, c, A, rfl, s, q, fun i hi => ?_, fun i hi => ?_⟩
  · rw [t i hi]; rw [s] at hi; simp [List.getD, hi]
  · rw [s] at hi; simp [List.getD, hi, hf i]
theorem o_AV.of_arv {Z : State} {h : Heap} {a : Addr} {k : ClassId} {ty : FieldType} {z : Int32} {vs : List Value} {d : Value} {f : Nat → Value} (F : Arv Z h a k ty z vs d) (hf : ∀ i, i < z.toNatClampNeg → vs.getD i d = f i) : o_AV Z h a ty z f := by
  obtain ⟨c, A, -, s, q, H, -⟩ := F
  exact ⟨q, c, A, s, fun i hi => by rw [H i hi, hf i (by rw [← s]; exact hi)]⟩
section
variable {p : Program} {l : Launch} {e : Env} {R : Room} {s : State} {m : MethodId} {args : Array Value} {below : List Frame} {meth : Method} {c : Code} {T : State} {locs : List Loc} {cells slots : Nat} {Z : State} {h : Heap} {a b : Addr}
end
/-- the entry is resolved in these tables -/
theorem o_AV.congr {Z : State} {h : Heap} {a : Addr} {ty : FieldType} {z : Int32} {f g : Nat → Value} (F : o_AV Z h a ty z f) (e : ∀ i, i < z.toNatClampNeg → f i = g i) : o_AV Z h a ty z g := by
  obtain ⟨q, c, A, s, t⟩ := F
  exact ⟨q, c, A, s, fun i hi => by rw [t i hi, e i (by rw [← s]; exact hi)]⟩
def o_sv (Z : State) (C n d : String) : Value := ((Jvm.Term.static C n d).eval #[] Z none [] Z).getD .null
def o_int : Value → Int32
  | .int x => x
  | _ => 0
def o_ref : Value → Addr
  | .ref x => x
  | _ => 0
def o_cs (Z : State) : Int32 := o_int (o_sv Z "java/lang/String" "COMPACT_STRINGS" "Z")
def o_fm (Z : State) : Value := o_sv Z "jdk/internal/util/Preconditions" "SIOOBE_FORMATTER" "Ljava/util/function/BiFunction;"
def o_us (Z : State) : Addr := o_ref (o_sv Z "java/lang/Throwable" "UNASSIGNED_STACK" "[Ljava/lang/StackTraceElement;")
def o_ss (Z : State) : Addr := o_ref (o_sv Z "java/lang/Throwable" "SUPPRESSED_SENTINEL" "Ljava/util/List;")
def o_iq (Z : State) : Addr := o_ref (o_sv Z "com/example/orderly_storefront/orderlystorefront/cart/CartException$Reason" "INVALID_QUANTITY" "Lcom/example/orderly_storefront/orderlystorefront/cart/CartException$Reason;")
def o_G (Z : State) (h : Heap) : Prop := Sta Z h "java/lang/String" "COMPACT_STRINGS" "Z" (.int (o_cs Z)) ∧ Sta Z h "java/lang/StringUTF16" "$assertionsDisabled" "Z" (.int 1) ∧ Sta Z h "java/lang/StringUTF16" "HI_BYTE_SHIFT" "I" (.int 0) ∧ Sta Z h "java/lang/StringUTF16" "LO_BYTE_SHIFT" "I" (.int 8) ∧ Sta Z h "jdk/internal/util/Preconditions" "SIOOBE_FORMATTER" "Ljava/util/function/BiFunction;" (o_fm Z) ∧ Sta Z h "java/lang/Throwable" "UNASSIGNED_STACK" "[Ljava/lang/StackTraceElement;" (.ref (o_us Z)) ∧ Sta Z h "java/lang/Throwable" "SUPPRESSED_SENTINEL" "Ljava/util/List;" (.ref (o_ss Z)) ∧ Sta Z h "com/example/orderly_storefront/orderlystorefront/cart/CartException$Reason" "INVALID_QUANTITY" "Lcom/example/orderly_storefront/orderlystorefront/cart/CartException$Reason;" (.ref (o_iq Z)) ∧ ¬ ((o_cs Z) = 0) ∧ (o_fm Z).category = 1
theorem o_hcs {Z : State} {h : Heap} (g : o_G Z h) : ¬ ((o_cs Z) = 0) := g.2.2.2.2.2.2.2.2.1
theorem o_hfm {Z : State} {h : Heap} (g : o_G Z h) : (o_fm Z).category = 1 := g.2.2.2.2.2.2.2.2.2
section
variable {Z : State} {h h' : Heap} {a : Addr} {sl : Nat} {v : Value} {ws : List Addr}
theorem o_G.ext (g : o_G Z h) (E : Ext h h') : o_G Z h' := by
  obtain ⟨a1, a2, a3, a4, a5, a6, a7, a8, r⟩ := g; exact ⟨a1.ext E, a2.ext E, a3.ext E, a4.ext E, a5.ext E, a6.ext E, a7.ext E, a8.ext E, r⟩
theorem o_G.wr (g : o_G Z h) (W : Wr h h' a sl v) : o_G Z h' := by
  obtain ⟨a1, a2, a3, a4, a5, a6, a7, a8, r⟩ := g; exact ⟨a1.wr W, a2.wr W, a3.wr W, a4.wr W, a5.wr W, a6.wr W, a7.wr W, a8.wr W, r⟩
theorem o_G.keep (g : o_G Z h) (K : Keep h h' ws) (q : ∀ x ∈ ws, ∀ c : Cell, h[x]? = some c → c.vm.isStatics = false) : o_G Z h' := by
  obtain ⟨a1, a2, a3, a4, a5, a6, a7, a8, r⟩ := g; exact ⟨o_sta_keep a1 K q, o_sta_keep a2 K q, o_sta_keep a3 K q, o_sta_keep a4 K q, o_sta_keep a5 K q, o_sta_keep a6 K q, o_sta_keep a7 K q, o_sta_keep a8 K q, r⟩
end
def o_by (g : Nat → Int32) : Nat → Value := fun i => .int (g i).toInt8.toInt32
def o_ch (g : Nat → Int32) : Nat → Value := fun i => .int (g i)
def o_ls (l : List Int32) : Nat → Int32 := fun i => l.getD i 0
def o_ui (g : Nat → Int32) (k : Nat) (x : Int32) : Nat → Int32 := fun i => if i = k then x else g i
def o_cpi (f : Nat → Int32) (sp : Nat) (g : Nat → Int32) (dp n : Nat) : Nat → Int32 := fun i => if dp ≤ i ∧ i < dp + n then f (sp + (i - dp)) else g i
def o_fill (g f : Nat → Int32) (n : Nat) : Nat → Int32 := fun i => if i < n then g i else f i
def o_u16 (g : Nat → Int32) : Nat → Int32 := fun j => if j % 2 = 0 then g (j / 2) >>> ((0 : Int32) &&& 31) else g (j / 2) >>> ((8 : Int32) &&& 31)
def o_pc (f : Nat → Int32) (j : Nat) (c : Int32) : Nat → Int32 := o_ui (o_ui f (2 * j) (c >>> ((0 : Int32) &&& 31))) (2 * j + 1) (c >>> ((8 : Int32) &&& 31))
def o_fill2 (g f : Nat → Int32) (n : Nat) : Nat → Int32 := fun j => if j < 2 * n then o_u16 g j else f j
def o_inf (f : Nat → Int32) (d : Nat) (g : Nat → Int32) (n : Nat) : Nat → Int32 := fun j => if 2 * d ≤ j ∧ j < 2 * (d + n) then o_u16 (fun k => (f (k - d)).toInt8.toInt32 &&& (255 : Int32)) j else g j
theorem o_fill_0 (g f : Nat → Int32) : o_fill g f 0 = f := by funext i; simp [o_fill]
theorem o_fill_s (g f : Nat → Int32) (n : Nat) : o_ui (o_fill g f n) n (g n) = o_fill g f (n + 1) := by
  funext i; unfold o_ui o_fill
  by_cases h : i = n
  · subst h; simp
  · rw [if_neg h]
    by_cases q : i < n
    · rw [if_pos q, if_pos (by omega)]
    · rw [if_neg q, if_neg (by omega)]
theorem o_fill2_0 (g f : Nat → Int32) : o_fill2 g f 0 = f := by funext i; simp [o_fill2]
theorem o_inf_0 (f : Nat → Int32) (d : Nat) (g : Nat → Int32) : o_inf f d g 0 = g := by
  funext j; unfold o_inf; rw [if_neg (by omega)]
theorem o_pc_at (f : Nat → Int32) (n : Nat) (g : Nat → Int32) (j : Nat) : o_pc f n (g n) j = if 2 * n ≤ j ∧ j < 2 * (n + 1) then o_u16 g j else f j := by
  unfold o_pc o_ui o_u16
  by_cases a : j = 2 * n + 1
  · subst a
    rw [if_pos rfl, if_pos (by omega), if_neg (by omega), show (2 * n + 1) / 2 = n by omega]
  · rw [if_neg a]
    by_cases b : j = 2 * n
    · subst b
      rw [if_pos rfl, if_pos (by omega), if_pos (by omega), show 2 * n / 2 = n by omega]
    · rw [if_neg b, if_neg (by omega)]
theorem o_fill2_s (g f : Nat → Int32) (n : Nat) : o_pc (o_fill2 g f n) n (g n) = o_fill2 g f (n + 1) := by
  funext j; rw [o_pc_at]; unfold o_fill2
  by_cases a : 2 * n ≤ j ∧ j < 2 * (n + 1)
  · rw [if_pos a, if_pos (by omega)]
  · rw [if_neg a]
    by_cases b : j < 2 * n
    · rw [if_pos b, if_pos (by omega)]
    · rw [if_neg b, if_neg (by omega)]
theorem o_inf_s (f : Nat → Int32) (d : Nat) (g : Nat → Int32) (n : Nat) : o_pc (o_inf f d g n) (d + n) ((f n).toInt8.toInt32 &&& (255 : Int32)) = o_inf f d g (n + 1) := by
  funext j
  have e := o_pc_at (o_inf f d g n) (d + n) (fun k => (f (k - d)).toInt8.toInt32 &&& (255 : Int32)) j
  simp only [Nat.add_sub_cancel_left] at e
  rw [e]; unfold o_inf
  by_cases a : 2 * (d + n) ≤ j ∧ j < 2 * (d + n + 1)
  · rw [if_pos a, if_pos (by omega)]
  · rw [if_neg a]
    by_cases b : 2 * d ≤ j ∧ j < 2 * (d + n)
    · rw [if_pos b, if_pos (by omega)]
    · rw [if_neg b, if_neg (by omega)]
theorem o_inc (n : Nat) : Int32.ofNat n + (1 : Int32) = Int32.ofNat (n + 1) := by rw [Int32.ofNat_add]; rfl
theorem o_ti {n : Nat} (h : n < 2147483648) : (Int32.ofNat n).toInt = n := by
  rw [Int32.toInt_ofNat', show Int32.size = 4294967296 from rfl]; exact Int.bmod_eq_of_le (by omega) (by omega)
theorem o_tn {n : Nat} (h : n < 2147483648) : (Int32.ofNat n).toNatClampNeg = n := by
  show (Int32.ofNat n).toInt.toNat = n
  rw [o_ti h]; rfl
theorem o_zn {z : Int32} : z.toNatClampNeg < 2147483648 := by
  have h := Int32.toInt_lt z
  show z.toInt.toNat < _
  omega
theorem o_zi {z : Int32} (hz : ¬ z < 0) : z.toInt = z.toNatClampNeg := by
  have h : 0 ≤ z.toInt := by rw [Int32.lt_iff_toInt_lt] at hz; simpa using hz
  show z.toInt = (z.toInt.toNat : Int)
  omega
theorem o_ixb {i n : Nat} {z : Int32} (h : i < n) (e : z.toNatClampNeg = n) : ¬ Int32.ofNat i < 0 ∧ Int32.ofNat i < z := by
  have b := o_zn (z := z)
  have ti := o_ti (n := i) (by omega)
  rw [Int32.lt_iff_toInt_lt, Int32.lt_iff_toInt_lt, ti]
  have e' : z.toInt.toNat = n := e
  refine ⟨by simp, by omega⟩
theorem o_ilt {i : Nat} {z : Int32} (h : i < z.toNatClampNeg) : Int32.ofNat i < z := (o_ixb h rfl).2
theorem o_ige {i : Nat} {z : Int32} (hz : ¬ z < 0) (h : z.toNatClampNeg ≤ i) (hi : i < 2147483648) : ¬ Int32.ofNat i < z := by
  rw [Int32.lt_iff_toInt_lt, o_ti hi, o_zi hz]; omega
theorem o_lti {i : Nat} {z : Int32} (hz : ¬ z < 0) (hi : i < 2147483648) (h : Int32.ofNat i < z) : i < z.toNatClampNeg := by
  rw [Int32.lt_iff_toInt_lt, o_ti hi, o_zi hz] at h; omega
theorem o_eqz {i : Nat} {z : Int32} (hz : ¬ z < 0) (h : i ≤ z.toNatClampNeg) (hn : ¬ Int32.ofNat i < z) : z = Int32.ofNat i := by
  have b := o_zn (z := z)
  have hi : i < 2147483648 := by omega
  apply Int32.toInt_inj.mp
  rw [o_ti hi, o_zi hz]
  rw [Int32.lt_iff_toInt_lt, o_ti hi, o_zi hz] at hn
  omega
theorem o_shl1 {p : Int32} {j : Nat} (e : p = Int32.ofNat j) : (p <<< ((1 : Int32) &&& 31)) = Int32.ofNat (2 * j) := by
  subst e
  apply Int32.toBitVec_inj.mp
  have h : ((1 : Int32) &&& 31) = 1 := by decide
  rw [h]
  simp only [Int32.toBitVec_shiftLeft]
  show (Int32.ofNat j).toBitVec <<< ((1 : Int32).toBitVec.smod 32) = _
  have h2 : ((1 : Int32).toBitVec.smod 32) = (1#32) := by decide
  rw [h2]
  apply BitVec.eq_of_toNat_eq
  simp [Int32.toBitVec_ofNat, Nat.shiftLeft_eq]
  omega
theorem o_by0 (i : Nat) : o_by (fun _ => 0) i = .int 0 := rfl
theorem o_byf (g : Nat → Int32) : ∀ i, fits .byte (o_by g i) = true := fun i => Jvm.Free.SBG.fits_of_int8 _
theorem o_bset (g : Nat → Int32) (k : Nat) (x : Int32) (i : Nat) : o_upd (o_by g) k (.int (nar .byte (x.toInt8.toInt32))) i = o_by (o_ui g k x) i := by
  rw [o_nar_b]; unfold o_upd o_by o_ui; split <;> rfl
theorem o_loop {tb : Tables} {e : Env} {below : List Frame} {P : State → Outcome → Prop} (Inv : Nat → State → JFrame → Prop) {n : Nat}
    (step : ∀ i T g, i < n → Inv i T g → (∀ T' g', Inv (i + 1) T' g' → o_Go tb e below P T' g') → o_Go tb e below P T g) (last : ∀ T g, Inv n T g → o_Go tb e below P T g) {T : State} {g : JFrame} (h0 : Inv 0 T g) : o_Go tb e below P T g := by
  have key : ∀ d i T g, i + d = n → Inv i T g → o_Go tb e below P T g := by
    intro d
    induction d with
    | zero => intro i T g q hI; have : i = n := by omega
              subst this; exact last T g hI
    | succ d ih => intro i T g q hI; exact step i T g (by omega) hI fun T' g' h => ih (i + 1) T' g' (by omega) h
  exact key n 0 T g (by omega) h0
theorem o_cpb (f : Nat → Int32) (sp : Nat) (g : Nat → Int32) (dp n i : Nat) : (if dp ≤ i ∧ i < dp + n then o_by f (sp + (i - dp)) else o_by g i) = o_by (o_cpi f sp g dp n) i := by
  unfold o_by o_cpi; split <;> rfl
section
variable {p : Program} {l : Launch} {e : Env} {R : Room} {s : State} {m : MethodId} {args : Array Value} {below : List Frame} {meth : Method} {c : Code} {T : State} {locs : List Loc} {cells slots : Nat} {Z : State} {h : Heap} {a b : Addr}
theorem o_cpB (X : Stand p l e R s m args below meth c T locs cells slots) (hx : p.tables.exec = Jvm.exec) (hZ : Z.Warmed39 s.vm) {a0 : Array Value} {own : String} {index : Nat} (hown : s.vm.findClass own = some m.cls)
    (w1 : (Jvm.Cond.methodLink own index Jvm.Stand.acN).before a0 Z = true) (w2 : (Jvm.Cond.native Jvm.Stand.acN).before a0 Z = true) (w3 : (Jvm.Cond.static Jvm.Stand.acN).before a0 Z = true) (w4 : (Jvm.Cond.initialized "java/lang/System").before a0 Z = true) (eT : T.heap = h)
    {z z' sp dp nn : Int32} {sp' dp' nn' : Nat} {f g' : Nat → Int32} (A : o_AV Z h a .byte z (o_by f)) (B : o_AV Z h b .byte z' (o_by g')) (q1 : sp.toNatClampNeg = sp') (q2 : dp.toNatClampNeg = dp') (q3 : nn.toNatClampNeg = nn')
    (h1 : ¬ sp < 0) (h2 : ¬ dp < 0) (h3 : ¬ nn < 0) (h4 : sp.toNatClampNeg + nn.toNatClampNeg ≤ z.toNatClampNeg) (h5 : dp.toNatClampNeg + nn.toNatClampNeg ≤ z'.toNatClampNeg) {n0 : Nat} (N : Fr n0 locs) (ge : n0 ≤ b)
    {g : JFrame} (hg : g.method = m) (hsize : g.locals.size = c.maxLocals) {rest : List Value} (hs : g.stack = .int nn :: .int dp :: .ref b :: .int sp :: .ref a :: rest) (hd : decode c.code g.pc = .ok (.invokestatic index, 3))
    (hf : 1 ≤ R.frames) {W : Nat} (hW : 2 * g.monitorRoom + (rest.map fun v => v.category).sum ≤ W) (hlo : W + (nativeFrameWords "java/lang/System" "arraycopy" 5 + 11) ≤ R.locals) :
    ∃ T' h' L, Stand p l e R s m args below meth c T' L cells slots ∧ T'.heap = h' ∧ Fr n0 L ∧ Keep h h' [b] ∧ o_AV Z h' b .byte z' (o_by (o_cpi f sp' g' dp' nn')) ∧
      ∀ target, Steps p.tables e below (T'.setTop { g with pc := g.pc + 3, stack := rest }) target → Steps p.tables e below (T.setTop g) target := by
  obtain ⟨k1, A'⟩ := o_AV.arv (d := .int 0) A (o_byf f)
  obtain ⟨k2, B'⟩ := o_AV.arv (d := .int 0) B (o_byf g')
  obtain ⟨T', h', L, X', e', N', K', V', st⟩ := cpA X hx hZ hown w1 w2 w3 w4 eT A' B' (Or.inl ⟨rfl, rfl⟩) h1 h2 h3 h4 h5 rfl (by simpa using h5) N ge hg hsize hs hd hf hW hlo
  refine ⟨T', h', L, X', e', N', K', o_AV.of_arv V' fun i hi => ?_, st⟩
  rw [← o_cpb]
  subst q1 q2 q3
  generalize sp.toNatClampNeg = sp' at *
  generalize dp.toNatClampNeg = dp' at *
  generalize nn.toNatClampNeg = nn' at *
  generalize z.toNatClampNeg = zz at *
  generalize z'.toNatClampNeg = zz' at *
  simp only [List.getD]
  by_cases c1 : i < dp'
  · rw [if_neg (by omega)]
    rw [List.append_assoc, List.getElem?_append_left (by simp; omega)]
    simp [List.getElem?_take, c1, hi]
  · by_cases c2 : i < dp' + nn'
    · rw [if_pos (by omega)]
      rw [List.append_assoc, List.getElem?_append_right (by simp; omega), List.getElem?_append_left (by simp; omega)]
      have q1 : i - (List.take dp' (List.map (o_by g') (List.range zz'))).length = i - dp' := by simp; omega
      rw [q1]
      have q2 : i - dp' < nn' := by omega
      have q3 : sp' + (i - dp') < zz := by omega
      simp [q2, q3]
    · rw [if_neg (by omega)]
      rw [List.getElem?_append_right (by simp; omega)]
      have q1 : i - (List.take dp' (List.map (o_by g') (List.range zz')) ++ List.map (fun i => ((List.map (o_by f) (List.range zz)).getD (sp' + i) (.int 0))) (List.range nn')).length = i - (dp' + nn') := by simp; omega
      simp only [List.getD] at q1
      rw [q1, List.getElem?_drop]
      have q2 : dp' + nn' + (i - (dp' + nn')) = i := by omega
      rw [q2]; simp [hi]
theorem o_lset (L : List Int32) (k : Nat) (v : Int32) (hk : k < L.length) (i : Nat) : o_upd (o_ch (o_ls L)) k (.int v) i = o_ch (o_ls (L.set k v)) i := by
  unfold o_upd o_ch o_ls
  simp only [List.getD, List.getElem?_set]
  by_cases e : i = k
  · subst e; simp [hk]
  · rw [if_neg e, if_neg (fun q => e q.symm)]
/-- one store of a row: dup, the index, the value, castore -/
theorem o_put4 {P : State → Outcome → Prop} (X : Stand p l e R s m args below meth c T locs cells slots) (hx : p.tables.exec = Jvm.exec) (hZ : Z.Warmed39 s.vm) (eT : T.heap = h) {z k' v : Int32} {L : List Int32} {hA : Heap} {n0 : Nat} (V : o_AV Z h a .char z (o_ch (o_ls L))) (hL : L.length = z.toNatClampNeg) (N : Fr n0 locs) (K : Keep hA h [a]) (ge : n0 ≤ a)
    {k : Nat} (q0 : k'.toNatClampNeg = k) (q1 : ¬ k' < 0 ∧ k' < z) (hv : nar .char v = v) {p0 p3 p4 : Nat} (q4 : p3 + 1 = p4) {A : Array Slot} {rest : List Value}
    (st : ∀ target, Steps p.tables e below (T.setTop (mkF m p3 A (.int v :: .int k' :: .ref a :: .ref a :: rest))) target → Steps p.tables e below (T.setTop (mkF m p0 A (.ref a :: rest))) target) (hd : decode c.code p3 = .ok (.castore, 1))
    (go : ∀ T' h' L', Stand p l e R s m args below meth c T' L' cells slots → T'.heap = h' → o_AV Z h' a .char z (o_ch (o_ls (L.set k v))) → (L.set k v).length = z.toNatClampNeg → Fr n0 L' → Keep hA h' [a] → o_Go p.tables e below P T' (mkF m p4 A (.ref a :: rest))) : o_Go p.tables e below P T (mkF m p0 A (.ref a :: rest)) := by
  obtain ⟨q, cl, A1, s1, t1⟩ := id V
  have hin := inb_of s1 q1
  obtain ⟨T', h', X', e', W', st'⟩ := stC X hx hZ eT A1 (j := k') hin (g := mkF m p3 A (.int v :: .int k' :: .ref a :: .ref a :: rest)) rfl rfl hd
  rw [hv] at W'
  have hk : k < L.length := by
    rw [hL, ← s1, ← q0]; exact Nat.lt_of_not_le fun q => hin (Or.inr q)
  subst q4
  refine o_go (fun _ kk => st _ (st' _ kk)) (go T' h' _ X' e' (o_AV.congr (o_AV.set V W' q0) fun i _ => o_lset L k v hk i) (by rw [List.length_set]; exact hL) (Fr.snoc X' N ge) (K.wr W' (Or.inl (List.mem_singleton.mpr rfl))))
theorem o_len (X : Stand p l e R s m args below meth c T locs cells slots) (hx : p.tables.exec = Jvm.exec) (hZ : Z.Warmed39 s.vm) (eT : T.heap = h) {ty : FieldType} {z : Int32} {f : Nat → Value} (F : o_AV Z h a ty z f) {g : JFrame} (hg : g.method = m) {rest : List Value} (hs : g.stack = .ref a :: rest) (hd : decode c.code g.pc = .ok (.arraylength, 1))
    (target : State) (k : Steps p.tables e below (T.setTop { g with pc := g.pc + 1, stack := .int z :: rest }) target) : Steps p.tables e below (T.setTop g) target := by
  obtain ⟨q, cl, A, sz, -⟩ := F
  refine X.arraylength hx (by rw [eT]; exact A.1) (State.isArrayOf_alike hZ.alike A.2.1) hg hs hd _ ?_
  rw [len_of sz q]; exact k
end
def o_T62 : List Int32 := [65, 32, 108, 105, 110, 101, 32, 104, 111, 108, 100, 115, 32, 97, 110, 32, 105, 110, 116, 101, 103, 101, 114, 32, 102, 114, 111, 109, 32, 49, 32, 116, 111, 32, 49, 48, 48, 48, 48, 48, 48, 32, 111, 102, 32, 105, 116, 115, 32, 118, 97, 114, 105, 97, 110, 116, 44, 32, 110, 111, 116, 32]
def o_gc (f : Nat → Int32) (j : Nat) : Int32 := ((((((f (2 * j)).toInt8.toInt32) &&& (255 : Int32)) <<< ((0 : Int32) &&& 31)) ||| ((((f ((2 * j) + 1)).toInt8.toInt32) &&& (255 : Int32)) <<< ((8 : Int32) &&& 31))).toUInt32.toUInt16.toUInt32.toInt32)
theorem o_gcb (c : Int32) : ((((((c >>> ((0 : Int32) &&& 31)).toInt8.toInt32) &&& (255 : Int32)) <<< ((0 : Int32) &&& 31)) ||| ((((c >>> ((8 : Int32) &&& 31)).toInt8.toInt32) &&& (255 : Int32)) <<< ((8 : Int32) &&& 31))).toUInt32.toUInt16.toUInt32.toInt32) = c.toUInt32.toUInt16.toUInt32.toInt32 := by
  have h0 : ((0 : Int32) &&& 31) = 0 := by decide
  have h8 : ((8 : Int32) &&& 31) = 8 := by decide
  rw [h0, h8]
  have key : ∀ x y : Int32, x.toBitVec.setWidth 16 = y.toBitVec.setWidth 16 → x.toUInt32.toUInt16.toUInt32.toInt32 = y.toUInt32.toUInt16.toUInt32.toInt32 := fun x y h => by
    have : x.toUInt32.toUInt16 = y.toUInt32.toUInt16 := UInt16.toBitVec_inj.mp h
    rw [this]
  apply key
  apply BitVec.eq_of_getLsbD_eq
  intro i hi
  have e0 : ((0 : Int32).toBitVec.smod 32).toNat = 0 := by decide
  have e8 : ((8 : Int32).toBitVec.smod 32).toNat = 8 := by decide
  have m : ∀ k, (255 : Int32).toBitVec.getLsbD k = decide (k < 8) := fun k => by
    show (255#32).getLsbD k = _
    by_cases hk : k < 32
    · have : ∀ k : Fin 32, (255#32).getLsbD k = decide (k.val < 8) := by decide
      exact this ⟨k, hk⟩
    · rw [BitVec.getLsbD_of_ge _ _ (by omega)]; simp; omega
  simp only [BitVec.getLsbD_setWidth, Int32.toBitVec_or, Int32.toBitVec_and, Int32.toBitVec_shiftLeft, Int32.toBitVec_shiftRight, Int8.toBitVec_toInt32, Int32.toBitVec_toInt8, BitVec.getLsbD_or, BitVec.getLsbD_and, BitVec.shiftLeft_eq', BitVec.getLsbD_shiftLeft, e0, e8, m, BitVec.getLsbD_signExtend, BitVec.getLsbD_setWidth, BitVec.sshiftRight', BitVec.getLsbD_sshiftRight]
  have a1 : i < 32 := by omega
  by_cases h : i < 8
  · simp [h, a1, hi, show ¬ (8 ≤ i) by omega, show ¬ (32 ≤ i) by omega]
  · have b1 : 8 + (i - 8) = i := by omega
    simp [h, a1, hi, b1, show 8 ≤ i by omega, show i - 8 < 8 by omega, show i - 8 < 32 by omega, show ¬ (32 ≤ i - 8) by omega]
theorem o_gcf (g f : Nat → Int32) {n kk : Nat} (h : kk < n) : o_gc (o_fill2 g f n) kk = (g kk).toUInt32.toUInt16.toUInt32.toInt32 := by
  have e1 : o_fill2 g f n (2 * kk) = g kk >>> ((0 : Int32) &&& 31) := by
    unfold o_fill2 o_u16; rw [if_pos (by omega), if_pos (by omega), show 2 * kk / 2 = kk by omega]
  have e2 : o_fill2 g f n ((2 * kk) + 1) = g kk >>> ((8 : Int32) &&& 31) := by
    unfold o_fill2 o_u16; rw [if_pos (by omega), if_neg (by omega), show (2 * kk + 1) / 2 = kk by omega]
  unfold o_gc
  rw [e1, e2]
  exact o_gcb (g kk)
theorem o_hb {z : Int32} {n m : Nat} (e : z.toNatClampNeg = n) (h : m < n) : m < z.toNatClampNeg := by rw [e]; exact h
theorem o_hbl {z : Int32} {n m : Nat} (e : z.toNatClampNeg = n) (h : m < n) : m ≤ z.toNatClampNeg := by rw [e]; omega
theorem o_nek {kk n : Nat} {z : Int32} (h : kk < n) (e : z.toNatClampNeg = n) : ¬ (Int32.ofNat kk = z) := fun q => by
  have b := o_zn (z := z)
  have hk : kk < 2147483648 := by omega
  rw [← q, o_tn hk] at e; omega
theorem o_rep (n i : Nat) : o_ch (o_ls (List.replicate n (0 : Int32))) i = .int 0 := by
  unfold o_ch o_ls
  simp only [List.getD, List.getElem?_replicate]
  split <;> rfl
theorem o_le62 (r : List Int32) : ∀ i, i < 62 → ¬ ((255 : Int32) < (o_ls (o_T62 ++ r) i))
  | 0, _ => (show ¬ ((255 : Int32) < (65 : Int32)) by decide)
  | 1, _ => (show ¬ ((255 : Int32) < (32 : Int32)) by decide)
  | 2, _ => (show ¬ ((255 : Int32) < (108 : Int32)) by decide)
  | 3, _ => (show ¬ ((255 : Int32) < (105 : Int32)) by decide)
  | 4, _ => (show ¬ ((255 : Int32) < (110 : Int32)) by decide)
  | 5, _ => (show ¬ ((255 : Int32) < (101 : Int32)) by decide)
  | 6, _ => (show ¬ ((255 : Int32) < (32 : Int32)) by decide)
  | 7, _ => (show ¬ ((255 : Int32) < (104 : Int32)) by decide)
  | 8, _ => (show ¬ ((255 : Int32) < (111 : Int32)) by decide)
  | 9, _ => (show ¬ ((255 : Int32) < (108 : Int32)) by decide)
  | 10, _ => (show ¬ ((255 : Int32) < (100 : Int32)) by decide)
  | 11, _ => (show ¬ ((255 : Int32) < (115 : Int32)) by decide)
  | 12, _ => (show ¬ ((255 : Int32) < (32 : Int32)) by decide)
  | 13, _ => (show ¬ ((255 : Int32) < (97 : Int32)) by decide)
  | 14, _ => (show ¬ ((255 : Int32) < (110 : Int32)) by decide)
  | 15, _ => (show ¬ ((255 : Int32) < (32 : Int32)) by decide)
  | 16, _ => (show ¬ ((255 : Int32) < (105 : Int32)) by decide)
  | 17, _ => (show ¬ ((255 : Int32) < (110 : Int32)) by decide)
  | 18, _ => (show ¬ ((255 : Int32) < (116 : Int32)) by decide)
  | 19, _ => (show ¬ ((255 : Int32) < (101 : Int32)) by decide)
  | 20, _ => (show ¬ ((255 : Int32) < (103 : Int32)) by decide)
  | 21, _ => (show ¬ ((255 : Int32) < (101 : Int32)) by decide)
  | 22, _ => (show ¬ ((255 : Int32) < (114 : Int32)) by decide)
  | 23, _ => (show ¬ ((255 : Int32) < (32 : Int32)) by decide)
  | 24, _ => (show ¬ ((255 : Int32) < (102 : Int32)) by decide)
  | 25, _ => (show ¬ ((255 : Int32) < (114 : Int32)) by decide)
  | 26, _ => (show ¬ ((255 : Int32) < (111 : Int32)) by decide)
  | 27, _ => (show ¬ ((255 : Int32) < (109 : Int32)) by decide)
  | 28, _ => (show ¬ ((255 : Int32) < (32 : Int32)) by decide)
  | 29, _ => (show ¬ ((255 : Int32) < (49 : Int32)) by decide)
  | 30, _ => (show ¬ ((255 : Int32) < (32 : Int32)) by decide)
  | 31, _ => (show ¬ ((255 : Int32) < (116 : Int32)) by decide)
  | 32, _ => (show ¬ ((255 : Int32) < (111 : Int32)) by decide)
  | 33, _ => (show ¬ ((255 : Int32) < (32 : Int32)) by decide)
  | 34, _ => (show ¬ ((255 : Int32) < (49 : Int32)) by decide)
  | 35, _ => (show ¬ ((255 : Int32) < (48 : Int32)) by decide)
  | 36, _ => (show ¬ ((255 : Int32) < (48 : Int32)) by decide)
  | 37, _ => (show ¬ ((255 : Int32) < (48 : Int32)) by decide)
  | 38, _ => (show ¬ ((255 : Int32) < (48 : Int32)) by decide)
  | 39, _ => (show ¬ ((255 : Int32) < (48 : Int32)) by decide)
  | 40, _ => (show ¬ ((255 : Int32) < (48 : Int32)) by decide)
  | 41, _ => (show ¬ ((255 : Int32) < (32 : Int32)) by decide)
  | 42, _ => (show ¬ ((255 : Int32) < (111 : Int32)) by decide)
  | 43, _ => (show ¬ ((255 : Int32) < (102 : Int32)) by decide)
  | 44, _ => (show ¬ ((255 : Int32) < (32 : Int32)) by decide)
  | 45, _ => (show ¬ ((255 : Int32) < (105 : Int32)) by decide)
  | 46, _ => (show ¬ ((255 : Int32) < (116 : Int32)) by decide)
  | 47, _ => (show ¬ ((255 : Int32) < (115 : Int32)) by decide)
  | 48, _ => (show ¬ ((255 : Int32) < (32 : Int32)) by decide)
  | 49, _ => (show ¬ ((255 : Int32) < (118 : Int32)) by decide)
  | 50, _ => (show ¬ ((255 : Int32) < (97 : Int32)) by decide)
  | 51, _ => (show ¬ ((255 : Int32) < (114 : Int32)) by decide)
  | 52, _ => (show ¬ ((255 : Int32) < (105 : Int32)) by decide)
  | 53, _ => (show ¬ ((255 : Int32) < (97 : Int32)) by decide)
  | 54, _ => (show ¬ ((255 : Int32) < (110 : Int32)) by decide)
  | 55, _ => (show ¬ ((255 : Int32) < (116 : Int32)) by decide)
  | 56, _ => (show ¬ ((255 : Int32) < (44 : Int32)) by decide)
  | 57, _ => (show ¬ ((255 : Int32) < (32 : Int32)) by decide)
  | 58, _ => (show ¬ ((255 : Int32) < (110 : Int32)) by decide)
  | 59, _ => (show ¬ ((255 : Int32) < (111 : Int32)) by decide)
  | 60, _ => (show ¬ ((255 : Int32) < (116 : Int32)) by decide)
  | 61, _ => (show ¬ ((255 : Int32) < (32 : Int32)) by decide)
  | n + 62, h => absurd h (by omega)
theorem o_at62 (r : List Int32) (k : Nat) : o_ls (o_T62 ++ r) (62 + k) = o_ls r k := by
  unfold o_ls
  have h : o_T62.length = 62 := by decide
  simp only [List.getD]
  rw [List.getElem?_append_right (by omega), h, Nat.add_sub_cancel_left]
theorem o_ge62 {r : List Int32} {n : Nat} (h : ∀ k, k < n → ¬ ((255 : Int32) < (o_ls r k))) (i : Nat) (hi : i < 62 + n) : ¬ ((255 : Int32) < (o_ls (o_T62 ++ r) i)) := by
  by_cases q : i < 62
  · exact o_le62 r i q
  · have e := o_at62 r (i - 62)
    rw [show 62 + (i - 62) = i by omega] at e
    rw [e]; exact h _ (by omega)
theorem o_l1 {c1 : Int32} (h : ¬ ((255 : Int32) < c1)) : ∀ k, k < 2 → ¬ ((255 : Int32) < (o_ls [c1, 46] k))
  | 0, _ => h
  | 1, _ => (show ¬ ((255 : Int32) < (46 : Int32)) by decide)
  | n + 2, q => absurd q (by omega)
theorem o_l3 {c1 c2 c3 : Int32} (h : ¬ ((255 : Int32) < c1 ∨ (255 : Int32) < c2 ∨ (255 : Int32) < c3)) : ∀ k, k < 3 → ¬ ((255 : Int32) < (o_ls [c1, c2, c3] k))
  | 0, _ => fun q => h (Or.inl q)
  | 1, _ => fun q => h (Or.inr (Or.inl q))
  | 2, _ => fun q => h (Or.inr (Or.inr q))
  | n + 3, q => absurd q (by omega)
theorem o_l4 {c1 c2 c3 : Int32} (h : ¬ ((255 : Int32) < c1 ∨ (255 : Int32) < c2 ∨ (255 : Int32) < c3)) : ∀ k, k < 4 → ¬ ((255 : Int32) < (o_ls [c1, c2, c3, 46] k))
  | 0, _ => fun q => h (Or.inl q)
  | 1, _ => fun q => h (Or.inr (Or.inl q))
  | 2, _ => fun q => h (Or.inr (Or.inr q))
  | 3, _ => (show ¬ ((255 : Int32) < (46 : Int32)) by decide)
  | n + 4, q => absurd q (by omega)
def o_k3 (c1 c2 : Int32) : Nat := if (255 : Int32) < c1 then 0 else if (255 : Int32) < c2 then 1 else 2
theorem o_k3lt (c1 c2 : Int32) : o_k3 c1 c2 < 3 := by
  unfold o_k3
  split
  · omega
  · split <;> omega
theorem o_k3le (c1 c2 c3 : Int32) (r : List Int32) (i : Nat) (hi : i < o_k3 c1 c2) : ¬ ((255 : Int32) < (o_ls (c1 :: c2 :: c3 :: r) i)) := by
  unfold o_k3 at hi
  split at hi
  · omega
  · rename_i h1
    split at hi
    · have : i = 0 := by omega
      subst this; exact h1
    · rename_i h2
      have : i = 0 ∨ i = 1 := by omega
      rcases this with rfl | rfl
      · exact h1
      · exact h2
theorem o_k3at {P : Int32 → Prop} {c1 c2 c3 : Int32} (r : List Int32) (h1 : (255 : Int32) < c1 → P c1) (h2 : (255 : Int32) < c2 → P c2) (h3 : ¬ ((255 : Int32) < c1) → ¬ ((255 : Int32) < c2) → P c3) : P (o_ls (c1 :: c2 :: c3 :: r) (o_k3 c1 c2)) := by
  unfold o_k3
  split
  · rename_i q; exact h1 q
  · rename_i q
    split
    · rename_i q2; exact h2 q2
    · rename_i q2; exact h3 q q2
theorem o_k3gt {c1 c2 c3 : Int32} (r : List Int32) (h : (255 : Int32) < c1 ∨ (255 : Int32) < c2 ∨ (255 : Int32) < c3) : (255 : Int32) < (o_ls (c1 :: c2 :: c3 :: r) (o_k3 c1 c2)) :=
  o_k3at (P := fun x => (255 : Int32) < x) r id id fun q1 q2 => h.elim (fun q => absurd q q1) fun h => h.elim (fun q => absurd q q2) id
theorem o_i2c (x : Int32) : (x.toUInt32.toUInt16.toUInt32.toInt32).toUInt32.toUInt16.toUInt32.toInt32 = x.toUInt32.toUInt16.toUInt32.toInt32 := congrArg (fun q : UInt16 => q.toUInt32.toInt32) (show (x.toUInt32.toUInt16).toUInt32.toUInt16 = x.toUInt32.toUInt16 from UInt16.toUInt16_toUInt32 _)
theorem o_k3ch {c1 c2 c3 : Int32} (r : List Int32) (h1 : c1.toUInt32.toUInt16.toUInt32.toInt32 = c1) (h2 : c2.toUInt32.toUInt16.toUInt32.toInt32 = c2) (h3 : c3.toUInt32.toUInt16.toUInt32.toInt32 = c3) : (o_ls (c1 :: c2 :: c3 :: r) (o_k3 c1 c2)).toUInt32.toUInt16.toUInt32.toInt32 = o_ls (c1 :: c2 :: c3 :: r) (o_k3 c1 c2) :=
  o_k3at (P := fun x => x.toUInt32.toUInt16.toUInt32.toInt32 = x) r (fun _ => h1) (fun _ => h2) (fun _ _ => h3)
def o_old (Z : State) (h : Heap) : Prop := ∀ (b : Addr) (c : Cell), Z.heap[b]? = some c → h[b]? = some c
/-- what the words on a held constant say, as facts -/
theorem o_slOf {s : State} {a : Addr} {units : Array UInt16} {a0 : Array Value} {nI : Nat} (hl : units.all (· < 256) = true) (hbig : units.size < 2147483648) (hw : (latin1L units).all (fun w => w.before #[.ref a] s) = true)
    (wV : (Jvm.Cond.laysFinal "java/lang/String" "java/lang/String" "value" "[B").before a0 s = true) (wC : (Jvm.Cond.laysFinal "java/lang/String" "java/lang/String" "coder" "B").before a0 s = true)
    (wA : (Jvm.Cond.arrayClass .byte).before a0 s = true) (wI : (Jvm.Cond.instantiable "java/lang/String" nI).before a0 s = true) : Jvm.SlOf s a units := by
  have W := fun w hm => Cond.before_iff.mp (List.all_eq_true.mp hw w hm)
  have w1 := W (Jvm.Cond.exactly (.arg 0) "java/lang/String") (by simp [latin1L])
  have w2 := W (Jvm.Cond.eq litC (.int 0)) (by simp [latin1L])
  have w3 := W (Jvm.Cond.exactly litV "[B") (by simp [latin1L])
  have w4 := W (Jvm.Cond.eq (.length litV) (.int (Int32.ofNat units.size))) (by simp [latin1L])
  have w5 : ∀ j, j < units.size → (Jvm.Cond.eq (.elem litV (.int (Int32.ofNat j))) (.int (litByte (units.getD j 0)))).value #[.ref a] s none s [] = some true := fun j hj =>
    W _ (List.mem_append_right _ (List.mem_map.mpr ⟨j, List.mem_range.mpr hj, rfl⟩))
  have ev0 : (Jvm.Term.arg 0).eval #[.ref a] s none [] s = some (.ref a) := rfl
  have E1 := Exa.start ev0 w1
  have F2 := o_fld_int ev0 w2
  obtain ⟨b, ev, E3⟩ := o_exa_ref w3
  have F1 : Fld s s.heap a "java/lang/String" "value" "[B" (.ref b) := Fld.start ((fld_at ev0).symm.trans ev)
  obtain ⟨sd, SA, hev, hat, hv⟩ := Term.length_spec (o_eq_int w4)
  cases ev.symm.trans hev
  obtain ⟨g1, g2, g3, -⟩ := State.arrayAt?_spec hat
  obtain ⟨cB, kB, comp, f1, f2, f3⟩ := Cond.arrayClass_spec wA
  obtain ⟨cellB, kB', r1, r2, r3, r4, r5⟩ := E3
  cases g1.symm.trans r1
  cases (show s.vm.findClass "[B" = some cB from f1).symm.trans r2
  obtain ⟨cl, k, e1, e2, e3, e4, e5⟩ := E1
  obtain ⟨cl1, cf1, k1, i1, fd1, p1, p2, p3, p4, p5, p6, p7⟩ := F1
  obtain ⟨cl2, cf2, k2, i2, fd2, t1, t2, t3, t4, t5, t6, t7⟩ := F2
  cases e1.symm.trans p1
  cases e1.symm.trans t1
  obtain ⟨cI, kI, hfI, hkI, hkind, -⟩ := Cond.instantiable_spec wI
  cases e2.symm.trans hfI
  cases e3.symm.trans hkI
  have hsz : SA.slots.size = units.size := by
    have h31 : SA.slots.size < 2 ^ 31 := Jvm.Free.SBG.length_lt ev hat (o_eq_int w4)
    have h2 := Value.int.inj hv
    have h3 := congrArg Int32.toInt h2
    rw [o_ti hbig] at h3
    have h4 : (Nat.toInt32 SA.slots.size).toInt = SA.slots.size := o_ti (by omega)
    rw [h4] at h3; omega
  have hel : ∀ j, j < units.size → SA.slots[j]? = some (.int (litByte (units.getD j 0))) := fun j hj => by
    have q := o_eq_int (w5 j hj)
    obtain ⟨a', j', cell, u1, u2, u3, u4, u5⟩ := Term.elem_spec q
    cases ev.symm.trans u1
    cases u2
    cases hat.symm.trans u3
    rw [o_tn (by omega)] at u5
    exact u5
  have hslots : SA.slots = stringBytes units := by
    simp only [stringBytes, hl, if_true]
    apply Array.ext
    · rw [hsz, Array.size_map]
    · intro j h1 h2
      have hj : j < units.size := by omega
      have q := hel j hj
      rw [Array.getElem?_eq_getElem h1] at q
      rw [Option.some.inj q, Array.getElem_map]
      simp [byteValue, litByte, Array.getD, hj]
  refine ⟨(a, cl, fd1, fd2, b, SA, units.size), cl.cls, rfl, ⟨⟨e1, p4, p5, ⟨cf1, k1, i1, p2, p6⟩, ⟨cf2, k2, i2, t2, t6⟩, p3, t3, p7, t7, g1, ⟨(fun k q => by rw [q] at g3; cases g3), kB, f2, comp, f3⟩, g2, hsz, by omega, ?_, ?_⟩, e2, rfl⟩, ⟨k, e3, hkind, e5 hkind⟩, r2, hslots⟩
  · intro q
    have e1' := e1
    rw [show a = b from q] at e1'
    cases e1'.symm.trans g1
    exact ids_ne e2 r2 (by decide) rfl
  · intro i hi
    have q := hel i (by rw [← hsz]; exact hi)
    simp only [Array.getD_eq_getD_getElem?, q, Option.getD_some]
    exact Jvm.Free.SBG.fits_of_int8 _
theorem o_heldL {a0 : Array Value} {s : State} {own text : String} {index nI : Nat} (h : constHeld s own index) (hlink : (Jvm.Cond.stringLink own index text).before a0 s = true) (hlat : ∀ c ∈ text.toList, c.toNat < 256) (hcw : compactW.before #[] s = true)
    (wV : (Jvm.Cond.laysFinal "java/lang/String" "java/lang/String" "value" "[B").before a0 s = true) (wC : (Jvm.Cond.laysFinal "java/lang/String" "java/lang/String" "coder" "B").before a0 s = true)
    (wA : (Jvm.Cond.arrayClass .byte).before a0 s = true) (wI : (Jvm.Cond.instantiable "java/lang/String" nI).before a0 s = true) : Jvm.ConstHeldL s own index := by
  intro c k cf i units a hc hk hcf hp hu hor
  obtain ⟨k', cf', i', units', hk', hcf', hp', hu', -, htext, -⟩ := Cond.stringLink_spec hc hlink
  cases hk.symm.trans hk'
  cases hcf.symm.trans hcf'
  cases hp.symm.trans hp'
  cases hu.symm.trans hu'
  have hl := lat_of_text htext hlat
  obtain ⟨hbig, hw⟩ := h c k cf i units a hc hk hcf hp hu hl hcw hor
  exact o_slOf hl hbig hw wV wC wA wI
theorem o_carry {a0 : Array Value} {Z s : State} {vm0 vm1 : Vm} {own text : String} {j : Nat} (hZ : Z.Warmed39 vm0) (w : (Jvm.Cond.stringLink own j text).before a0 Z = true) (hW : (s.setVm vm0).Warmed39 vm1)
    (hint : vm1.interned = vm0.interned ∨ ∃ (units : Array UInt16) (a' : Addr), utf16ToString? units ≠ some text ∧ vm1.interned = vm0.interned.push (units, a')) (h : Jvm.ConstHeldL (Z.setVm vm0) own j) : Jvm.ConstHeldL (Z.setVm vm1) own j :=
  Jvm.Free.SBG.constHeldL_carried (s := Z.setVm vm0) (args := a0) (textJ := text) hW (mvS (s := Z.setVm vm0) hZ w) hint h
theorem o_hint {vm0 vm1 : Vm} {text text' : String} (hne : text ≠ text') (h : vm1.interned = vm0.interned ∨ ∃ (units : Array UInt16) (a' : Addr), utf16ToString? units = some text ∧ vm1.interned = vm0.interned.push (units, a')) :
    vm1.interned = vm0.interned ∨ ∃ (units : Array UInt16) (a' : Addr), utf16ToString? units ≠ some text' ∧ vm1.interned = vm0.interned.push (units, a') := by
  rcases h with h | ⟨u, a, h1, h2⟩
  · exact Or.inl h
  · exact Or.inr ⟨u, a, fun q => hne (Option.some.inj (h1.symm.trans q)), h2⟩
def o_sep (z y n a b : Nat) : Prop := z ≤ n ∧ ((a < z ∧ b < z) ∨ (y ≤ a ∧ y ≤ b))
theorem o_oldsz {Z : State} {h : Heap} (H : o_old Z h) : Z.heap.size ≤ h.size := by
  by_cases c : Z.heap.size = 0
  · omega
  · have q := H (Z.heap.size - 1) (Z.heap[Z.heap.size - 1]'(by omega)) (Array.getElem?_eq_getElem (by omega))
    have := (Array.getElem?_eq_some_iff.mp q).1
    omega
theorem o_notright {S : State} {d : ClassId} {k : Class} {cf : ClassFile} {i : Nat} {text : String} {r : Resolved} (hk : S.vm.classes[d]? = some k) (hcf : k.cf = some cf) (hnm : namesOf? cf.constantPool i = some (.string text)) (hr : S.rightAt d i r = true) : False := by
  cases r <;> simp [State.rightAt, hk, hcf, hnm] at hr
theorem o_ldcC {p : Program} {l : Launch} {e : Env} {R : Room} {s : State} {vm0 : Vm} {m : MethodId} {args : Array Value} {below : List Frame} {meth : Method} {c : Code} {T : State} {locs : List Loc} {cells slots : Nat} {Z : State} {a0 : Array Value} {h : Heap}
    (X : Stand p l e R (s.setVm vm0) m args below meth c T locs cells slots) (hx : p.tables.exec = Jvm.exec) (hZ : Z.Warmed39 vm0) {own text : String} {index : Nat} (hown : vm0.findClass own = some m.cls) (w : (Jvm.Cond.stringLink own index text).before a0 Z = true) (wS : ∀ a ∈ Bundle.stringAtoms, a.before a0 Z = true)
    (wV : (Jvm.Cond.laysFinal "java/lang/String" "java/lang/String" "value" "[B").before a0 Z = true) (wC : (Jvm.Cond.laysFinal "java/lang/String" "java/lang/String" "coder" "B").before a0 Z = true)
    (eT : T.heap = h) {k0 : Nat} (hS : s.Since vm0 k0) (hk : k0 ≤ h.size) {n0 : Nat} (N : Fr n0 locs) (hn0 : s.heap.size ≤ n0 ∨ locs = []) (hH : Jvm.ConstHeldL (Z.setVm vm0) own index) (old : o_old Z s.heap)
    {bs : List Int32} {z : Int32} (hlat : ∀ c ∈ text.toList, c.toNat < 256) (hbs : ∀ units : Array UInt16, utf16ToString? units = some text → stringBytes units = (bs.map Value.int).toArray) (hfit : ∀ x ∈ bs, x.toInt8.toInt32 = x) (hz : bs.length = z.toNatClampNeg) (hz0 : ¬ z < 0)
    {g : JFrame} (hg : g.method = m) (hd : decode c.code g.pc = .ok (.ldc index, 2)) {n : Nat} (hn : 4 * text.toList.length ≤ n) (hbig : n ≤ 536870912) (hc : cells + 2 ≤ R.cells) (hl : slots + (n + 4) ≤ R.slots) :
    ∃ (a b : Addr) (T' : State) (h' : Heap) (k1 : Nat), Stand p l e R (s.setVm T'.vm) m args below meth c T' [] (cells + 2) (slots + (n + 4)) ∧ T'.heap = h' ∧ Ext h h' ∧ s.Since T'.vm k1 ∧ k1 ≤ h'.size ∧ Z.Warmed39 (s.setVm T'.vm).vm ∧ (s.setVm T'.vm).vm.findClass own = some m.cls ∧ Lit (s.setVm T'.vm) own index a ∧ (s.setVm vm0).Warmed39 T'.vm ∧
      (T'.vm.interned = vm0.interned ∨ ∃ (units : Array UInt16) (a' : Addr), utf16ToString? units = some text ∧ T'.vm.interned = vm0.interned.push (units, a')) ∧
      Exa Z h' a "java/lang/String" ∧ Fld Z h' a "java/lang/String" "value" "[B" (.ref b) ∧ Fld Z h' a "java/lang/String" "coder" "B" (.int 0) ∧ o_AV Z h' b .byte z (o_by (o_ls bs)) ∧ o_sep Z.heap.size h.size s.heap.size a b ∧
      ∀ target, Steps p.tables e below (T'.setTop { g with pc := g.pc + 2, stack := .ref a :: g.stack }) target → Steps p.tables e below (T.setTop g) target := by
  have wS' : ∀ d ∈ Bundle.stringAtoms, d.before args (s.setVm vm0) = true := fun d hd => by
    have q := wS d hd
    simp only [Bundle.stringAtoms, List.mem_cons, List.not_mem_nil, or_false] at hd
    rcases hd with rfl | rfl | rfl | rfl | rfl | rfl | rfl
    · exact mv (s := s.setVm vm0) hZ q
    · exact mv (s := s.setVm vm0) hZ q
    · exact mvA (s := s.setVm vm0) hZ q
    · exact mv (s := s.setVm vm0) hZ q
    · exact mv (s := s.setVm vm0) hZ q
    · exact mv (s := s.setVm vm0) hZ q
    · exact mv (s := s.setVm vm0) hZ q
  have X1 : Stand p l e R (s.setVm vm0) m args below meth c T [] cells slots := by
    rcases hn0 with hn0 | rfl
    · exact Stand.dropFresh (locs := []) (J := locs) X fun x hx => Nat.le_trans hn0 (N x hx)
    · exact X
  have hheld : Jvm.ConstHeldL (s.setVm vm0) own index := fun c k cf i units a h1 h2 h3 h4 h5 h6 =>
    (hH c k cf i units a h1 h2 h3 h4 h5 h6).moved (Vm.Alike.refl _) fun b c hb => old b c hb
  obtain ⟨a, T', X', hS', ⟨kk, hkk, hrr⟩, hkeep, hI, hint, ⟨units, hdec, q, cS, hqa, hSl, ⟨kS, k1, k2, k3⟩, hfB, hby, hwhere⟩, st⟩ := X1.ldcStringColdSl2 hx (own := own) hown (mvS hZ w) wS' hheld (fun us hus => lat_of_text hus hlat) hg hd hn hbig hc hl
  subst eT
  have hf : T'.vm.findClass own = some m.cls := by rw [hS'.1.alike.findClass]; exact hown
  have hW : Z.Warmed39 T'.vm := State.Warmed39.trans (t := s.setVm vm0) hZ hS'.1
  have hA := hW.alike
  have E : Ext T.heap T'.heap := ⟨hI.1, fun x c hx => by rw [hkeep x (Array.getElem?_eq_some_iff.mp hx).1]; exact hx⟩
  have hint' : T'.vm.interned = vm0.interned ∨ ∃ (units : Array UInt16) (a' : Addr), utf16ToString? units = some text ∧ T'.vm.interned = vm0.interned.push (units, a') := by
    have q : T.vm.interned = vm0.interned := X1.warmed.interned_eq
    rw [q] at hint; exact hint
  obtain ⟨⟨p1, p2, p3, ⟨c1, kk1, i1, f1, as1⟩, ⟨c2, kk2, i2, f2, as2⟩, p6, p7, p8, p9, p10, p11, p12, p13, p14, p15, p16⟩, hcS, hcls⟩ := hSl
  obtain ⟨cV, kV, cV', kV', iV, fV, v1, v2, v3, v4, -, v6, v7, -⟩ := Cond.laysFinal_spec wV
  obtain ⟨cC, kC, cC', kC', iC, fC, u1, u2, u3, u4, -, u6, u7, -⟩ := Cond.laysFinal_spec wC
  have hcS' : Z.vm.findClass "java/lang/String" = some cS := by rw [← hA.findClass]; exact hcS
  cases v1.symm.trans hcS'
  cases u1.symm.trans hcS'
  obtain ⟨k3', hi3, -⟩ := State.fieldFound?_setVm (s := Z) hA v3
  obtain ⟨k4', hi4, -⟩ := State.fieldFound?_setVm (s := Z) hA u3
  have ef1 : q.fSV = fV := Option.some.inj (congrArg (Option.map fun x : ClassId × Class × Nat × Field => x.2.2.2) (f1.symm.trans (show T'.fieldFound? "java/lang/String" "value" "[B" = _ from hi3)))
  have ef2 : q.fSC = fC := Option.some.inj (congrArg (Option.map fun x : ClassId × Class × Nat × Field => x.2.2.2) (f2.symm.trans (show T'.fieldFound? "java/lang/String" "coder" "B" = _ from hi4)))
  obtain ⟨kZ', hkZ', ekZ⟩ := hA.2.2 _ _ v2
  cases k1.symm.trans hkZ'
  have hB : Z.vm.findClass "[B" = some q.SA.cls := by rw [← hA.findClass]; exact hfB
  obtain ⟨kB, hkB, -⟩ := Vm.findClass_spec hB
  obtain ⟨kB', hkB', ekB⟩ := hA.2.2 _ _ hkB
  obtain ⟨pa, kx, hkx, comp, hkind⟩ := p11
  cases hkB'.symm.trans hkx
  have hkind' : kB.kind = .array comp .byte := by rw [ekB] at hkind; exact hkind
  have hwh : (q.sa < Z.heap.size ∧ q.sd < Z.heap.size) ∨ (T.heap.size ≤ q.sa ∧ T.heap.size ≤ q.sd) := by
    rcases hwhere with hlo | hhi
    · refine Or.inl ?_
      have hq : T.vm.interned = vm0.interned := X1.warmed.interned_eq
      obtain ⟨kL, cfL, iL, us, g1, g2, g3, g4, g5, g6, g7⟩ := Cond.stringLink_spec hown (mvS (s := s.setVm vm0) (args := args) hZ w)
      obtain ⟨k'', ha'', -, -, ee, -⟩ := hS'.1.2.2.2 _ kL g1
      cases hkk.symm.trans ha''
      have hold : SlOf (Z.setVm vm0) a us := by
        rcases ee index with e0 | ⟨hop, r, e1, hr | ⟨a3, t3, si, us3, rfl, -, r3, r4, r5⟩⟩
        · exact hH _ kL cfL iL us a hown g1 g2 g3 g4 (Or.inl (by rw [← e0]; exact hrr))
        · exfalso
          exact o_notright g1 g2 g5 hr
        · rw [g2] at r3 r4
          have e3 : si = iL := by
            have := r3.symm.trans g3
            simpa using this
          subst e3
          have e4 : us3 = us := by simpa [ConstantPool.utf8?, g4] using r4.symm
          subst e4
          cases (Option.some.inj (Option.some.inj (hrr.symm.trans e1)))
          rcases hI.2 with e | ⟨u, a', e, ge', -⟩
          · exact hH _ kL cfL si us3 a hown g1 g2 g3 g4 (Or.inr ⟨hop, by show vm0.interned.find? (fun p => p.1 == us3) = some (us3, a); rw [← hq, ← e]; exact r5⟩)
          · rw [e, Array.find?_push, hq] at r5
            cases hs : vm0.interned.find? (fun p => p.1 == us3) with
            | some pr => rw [hs] at r5; exact hH _ kL cfL si us3 a hown g1 g2 g3 g4 (Or.inr ⟨hop, hs.trans (by simpa using r5)⟩)
            | none =>
              rw [hs] at r5
              exfalso
              have q1 : T.heap.size ≤ a := by
                by_cases hb : (u == us3) = true
                · simp [hb] at r5
                  rw [← r5.2]; exact ge'
                · simp [hb] at r5
              have q2 := X1.heapGrown
              have q3 : a < s.heap.size := by rw [← hqa]; exact hlo.1
              have q4 : s.heap.size ≤ T.heap.size := q2
              exact absurd (Nat.lt_of_lt_of_le q3 (Nat.le_trans q4 q1)) (Nat.lt_irrefl _)
      obtain ⟨q2, cS2, j1, ⟨⟨m1, m2, m3, ⟨d1, dk1, di1, df1, das1⟩, -, -, -, m8, -, m10, -⟩, -, -⟩, -⟩ := hold
      have m1' : T'.heap[q2.sa]? = some q2.sC := by
        rw [hkeep q2.sa (Nat.lt_of_lt_of_le (Array.getElem?_eq_some_iff.mp (old _ _ m1)).1 X1.heapGrown)]
        exact X1.same.old_cell (old _ _ m1)
      have p1' : T'.heap[q2.sa]? = some q.sC := by rw [j1, ← hqa]; exact p1
      have ec : q2.sC = q.sC := Option.some.inj (m1'.symm.trans p1')
      obtain ⟨k5', hi5, -⟩ := State.fieldFound?_setVm (s := Z.setVm vm0) hS'.1.alike df1
      have ef5 : q.fSV = q2.fSV := Option.some.inj (congrArg (Option.map fun x : ClassId × Class × Nat × Field => x.2.2.2) (f1.symm.trans (show T'.fieldFound? "java/lang/String" "value" "[B" = _ from hi5)))
      rw [ec, ← ef5] at m8
      have es : q.sd = q2.sd := Value.ref.inj (Option.some.inj (p8.symm.trans m8))
      refine ⟨?_, ?_⟩
      · rw [hqa, ← j1]; exact (Array.getElem?_eq_some_iff.mp m1).1
      · rw [es]; exact (Array.getElem?_eq_some_iff.mp m10).1
    · exact Or.inr hhi
  have hbs' := hbs units hdec
  rw [hbs'] at hby
  subst hqa
  refine ⟨q.sa, q.sd, T', _, _, X', rfl, E, hS.trans hS' (Nat.le_trans hk E.1), Nat.le_refl _, hW, hf, by simp [Lit, State.resolvedAt?, hf, hkk, hrr], hS'.1, hint', ?_, ?_, ?_, ?_, ⟨o_oldsz old, hwh⟩, st⟩
  · exact ⟨q.sC, kV, p1, by rw [hcls]; exact hcS', by rw [hcls]; exact v2, p3, fun _ => by rw [k3, ekZ]⟩
  · exact ⟨q.sC, cV', kV', iV, fV, p1, v3, v4, p2, p3, by rw [hcls]; exact v6, by rw [← ef1]; exact p8⟩
  · exact ⟨q.sC, cC', kC', iC, fC, p1, u3, u4, p2, p3, by rw [hcls]; exact u6, by rw [← ef2]; exact p9⟩
  · refine ⟨hz0, q.SA, ⟨p10, ⟨pa, kB, hkB, comp, hkind'⟩, p12⟩, by rw [hby]; simpa using hz, fun i hi => ?_⟩
    rw [hby] at hi ⊢
    have hi' : i < bs.length := by simpa using hi
    have q1 := hfit _ (List.getElem_mem hi')
    simp [o_by, o_ls, List.getD, hi', q1]
theorem o_backC {p : Program} {l : Launch} {e : Env} {R : Room} {s : State} {args : Array Value} {below : List Frame} {Z : State} {a0 : Array Value} {h : Heap} {y : MethodName} {bytes : ByteArray} {maxL : Nat} {ret : Option FieldType} {rm : Room} {len W : Nat} {as' : Array Value} {Q : Option Value → Heap → List Loc → Prop} {PV QV : Vm → Prop}
    (hM : MetFree l y (head1 [Jvm.Cond.code y bytes maxL ret] rm) (fun a U => a = as' ∧ Z.Warmed39 U.vm ∧ U.heap = h ∧ PV U.vm) (fun _ _ _ _ _ => True) (fun _ U o U' => ∃ v L, o = .returned v ∧ (Q v U'.heap L ∧ QV U'.vm) ∧ ReturnedEndW U o U' L rm.cells rm.slots))
    (hZ : Z.Warmed39 s.vm) (wc : (Jvm.Cond.code y bytes maxL ret).before a0 Z = true) (wz : (Jvm.Cond.initialized y.cls).before a0 Z = true) (hf : rm.frames + 1 ≤ R.frames) (hl : W + (maxL + 11) + rm.locals ≤ R.locals) (hPV : ∀ vm, s.WarmedH vm → PV vm) :
    BackS l R p e below s args y len W (fun A a => a = as' ∧ A.U.heap = h ∧ A.cells + rm.cells ≤ R.cells ∧ A.slots + rm.slots ≤ R.slots)
      (fun A _ v B => ∃ L, (Q v B.U.heap L ∧ QV B.U.vm) ∧ B.locs = A.locs ++ L ∧ B.cells = A.cells + rm.cells ∧ B.slots = A.slots + rm.slots) := by
  refine BackS.of_freeW (bytes := bytes) (maxL := maxL) (ret := ret) (E := fun _ _ o t L k n => k = rm.cells ∧ n = rm.slots ∧ ∃ v, o = .returned v ∧ Q v t.heap L ∧ QV t.vm) hM hf hl ?_ ?_ (fun _ _ _ _ _ _ _ _ _ => trivial) ?_ ?_
  · intro m meth c A a Y hp
    have hU : Z.Warmed39 A.U.vm := wtrans hZ Y.warmed
    exact ⟨by show (Jvm.Cond.and _ .tt).before a A.U = true; rw [Cond.before_and, mv hU wc]; rfl, mv hU wc, mv hU wz, hp.2.2.1, hp.2.2.2⟩
  · intro m meth c A a g mk Y hp
    exact ⟨hp.1, wtrans hZ Y.warmed, hp.2.1, hPV _ Y.warmed⟩
  · rintro a first o t ⟨v, L, h1, h2, h3⟩
    exact ⟨L, _, _, h3, rfl, rfl, v, h1, h2⟩
  · rintro m meth c A a g mk v t L k n Y hp - - ⟨rfl, rfl, v', h1, h2⟩
    cases h1
    exact ⟨L, h2, rfl, rfl, rfl⟩
theorem o_carryH {a0 : Array Value} {Z s : State} {vm0 vm1 : Vm} {own text : String} {j : Nat} (hZ : Z.Warmed39 vm0) (w : (Jvm.Cond.stringLink own j text).before a0 Z = true) (hW : (s.setVm vm0).WarmedH vm1) (h : Jvm.ConstHeldL (Z.setVm vm0) own j) : Jvm.ConstHeldL (Z.setVm vm1) own j :=
  o_carry (s := s) hZ w hW.wide (Or.inl hW.interned_eq) h
theorem o_selfsel2 {Z s : State} {a0 args : Array Value} {y : MethodName} {C : String} (hZ : Z.Warmed39 s.vm) (ws : (Jvm.Cond.selects C y y).before a0 Z = true) (wm : (Jvm.Cond.instanceMethod y).before a0 Z = true) (wp : (Jvm.Cond.privateMethod y).before a0 Z = true) (hy : y.cls ≠ "java/lang/invoke/MethodHandle" ∧ y.cls ≠ "java/lang/invoke/VarHandle") : (Jvm.Cond.selects y.cls y y).before args s = true := by
  obtain ⟨c2, r2, m2, q1, q2, q3, q4, kP, hkP, hkPi⟩ := Cond.selects_spec (mvT (args := args) hZ ws)
  exact selects_self_of_private (findClass_of_methodNamed q3) hkP hkPi (Cond.privateMethod_at (mvP hZ wp (args := #[]))) (mvT hZ wm) hy
theorem o_samesup {Z : State} {a0 : Array Value} {y y' : MethodName} {C : String} (wd : (Jvm.Cond.declares y).before a0 Z = true) (ws : (Jvm.Cond.selects C y' y').before a0 Z = true) (he : y'.cls = y.cls) (hy : y.cls ≠ "java/lang/invoke/MethodHandle" ∧ y.cls ≠ "java/lang/invoke/VarHandle") : (Jvm.Cond.sameMethod y.cls y.cls y.name y.desc).before a0 Z = true := by
  obtain ⟨c2, r2, m2, q1, q2, q3, q4, kP, hkP, hkPi⟩ := Cond.selects_spec ws
  obtain ⟨r0, r, hn, hrm, hstR, hsigR⟩ := Cond.declares_spec wd
  have h1 := findClass_of_methodNamed hn
  have h2 := findClass_of_methodNamed q3
  rw [he] at h2
  have e : m2.cls = r0.cls := Option.some.inj (h2.symm.trans h1)
  rw [e] at hkP
  have h3 := State.methodFound?_of_named hn hy
  have h1' : Z.vm.findClass y.cls = some r0.cls := h1
  have hn' : Z.methodNamed? ⟨y.cls, y.name, y.desc⟩ = some r0 := hn
  simp [Cond.before, Cond.holds, Cond.value, h1', h3, hn', hkP, hkPi]
theorem o_nfsel {Z s : State} {a0 : Array Value} {y y' : MethodName} {C : String} (hZ : Z.Warmed39 s.vm) (ws : (Jvm.Cond.selects C y' y').before a0 Z = true) (he : y'.cls = y.cls) : NotFace s y := fun r0 h0 => by
  obtain ⟨c2, r2, m2, q1, q2, q3, q4, kP, hkP, hkPi⟩ := Cond.selects_spec (mvT (args := #[]) hZ ws)
  have h1 := findClass_of_methodNamed h0
  have h2 := findClass_of_methodNamed q3
  rw [he] at h2
  have e : m2.cls = r0.cls := Option.some.inj (h2.symm.trans h1)
  rw [e] at hkP
  exact ⟨kP, hkP, hkPi⟩
theorem o_frmono {k k' : Nat} {L : List Loc} (N : Fr k L) (h : k' ≤ k) : Fr k' L := fun y q => Nat.le_trans h (N y q)
def o_df (a b : Nat) : Prop := a ≠ b
theorem o_df.sym {a b : Nat} (h : o_df a b) : b ≠ a := Ne.symm h
def o_T (Z : State) (a0 : Array Value) : Prop := ∀ d ∈ tables_1, d.before a0 Z = true
def o_C (p : Program) (c : Code) (bytes : ByteArray) : Prop := p.tables.exec = Jvm.exec ∧ c.code = bytes
def o_H (s Z : State) (m : MethodId) (own : String) (c : Code) (ml : Nat) : Prop := Z.Warmed39 s.vm ∧ s.vm.findClass own = some m.cls ∧ c.maxLocals = ml
def o_P (below : List Frame) (s : State) (Q : Option Value → Heap → List Loc → Prop) (rm : Room) : State → Outcome → Prop := fun t o => t.status = .running ∧ Ended t below o ∧ ∃ v L, o = .returned v ∧ Q v t.heap L ∧ FrameEnd s o t L rm.cells rm.slots
def o_M (l : Launch) (Z : State) (y : MethodName) (bytes : ByteArray) (maxL : Nat) (ret : Option FieldType) (rm : Room) (A : Array Value) (h0 : Heap) (Q : Option Value → Heap → List Loc → Prop) : Prop :=
  MetFree l y (head1 [Jvm.Cond.code y bytes maxL ret] rm) (fun a U => a = A ∧ Z.Warmed39 U.vm ∧ U.heap = h0) (fun _ _ _ _ _ => True) (fun _ U o U' => ∃ v L, o = .returned v ∧ Q v U'.heap L ∧ FrameEnd U o U' L rm.cells rm.slots)
abbrev o_rm (f k n w : Nat) : Room := { frames := f, cells := k, slots := n, locals := w }
theorem o_start {l : Launch} {Z : State} {y : MethodName} {bytes : ByteArray} {maxL : Nat} {ret : Option FieldType} {rm : Room} {A : Array Value} {h0 : Heap} {Q : Option Value → Heap → List Loc → Prop} (hp : plainFor y = true) {L0 : Array Slot} (hef : ∀ m, entryFrame m A maxL = mkF m 0 L0 [])
    (H : ∀ (p : Program) (e : Env) (s : State) (m : MethodId) (below : List Frame) (meth : Method) (c : Code) (s₁ : State), p.tables.exec = Jvm.exec → c.code = bytes → c.maxLocals = maxL → s.vm.findClass y.cls = some m.cls → meth.name = y.name → meth.sig.returnType = ret ∧ meth.locks = false → Z.Warmed39 s.vm → Stand p l e rm s m A below meth c s₁ [] 0 0 → s₁.heap = h0 → o_C p c bytes → o_H s Z m y.cls c maxL →
      o_Go p.tables e below (o_P below s Q rm) s₁ (mkF m 0 L0 [])) : o_M l Z y bytes maxL ret rm A h0 Q := by
  refine MetFree.of_bodySF hp hisR ?_
  intro p e s m args below meth c s₁ Bd hml hP hK
  obtain ⟨rfl, hZ, hh⟩ := hP
  obtain ⟨t, o, h1, h2, h3, h4⟩ := H p e s m below meth c s₁ Bd.exec Bd.bytes hml (findClass_of_methodNamed Bd.named) (name_of_methodNamed Bd.named Bd.method).1 ⟨Bd.returns, BodyLoose.notSynchronized Bd⟩ hZ (Stand.of_body Bd) (by rw [← hh, Bd.state]; rfl) ⟨Bd.exec, Bd.bytes⟩ ⟨hZ, findClass_of_methodNamed Bd.named, hml⟩
  rw [← hef m] at h1
  exact ⟨t, o, h1, h2, h3, h4⟩
section
variable {p : Program} {l : Launch} {e : Env} {R : Room} {s : State} {m : MethodId} {args : Array Value} {below : List Frame} {meth : Method} {c : Code} {T : State} {locs : List Loc} {cells slots : Nat} {Z : State} {a0 : Array Value} {h : Heap} {a : Addr}
theorem o_cst (X : Stand p l e R s m args below meth c T locs cells slots) {ml : Nat} {code : ByteArray} {P : State → Outcome → Prop} (B : o_C p c code) {own : String} {index : Nat} {y : MethodName} {bytes : ByteArray} {maxL : Nat} {ret : Option FieldType} {rm : Room} {A : Array Value} {Q : Option Value → Heap → List Loc → Prop} (H : o_H s Z m own c ml) (eT : T.heap = h)
    (hM : o_M l Z y bytes maxL ret rm A h Q) (w1 : (Jvm.Cond.methodLink own index y).before a0 Z = true) (w2 : (Jvm.Cond.static y).before a0 Z = true) (wz : (Jvm.Cond.initialized y.cls).before a0 Z = true) (wc : (Jvm.Cond.code y bytes maxL ret).before a0 Z = true)
    {pc : Nat} {Ls : Array Slot} {S : List Value} (hsz : Ls.size = ml) {argsL rest : List Value} (hlen : ∀ sig, parseMethodDescriptor y.desc = some sig → argsL.length = sig.parameters.length) (hA : argsL.toArray = A) (hs : S = argsL.reverse ++ rest) {W : Nat} (hW0 : (rest.map fun v => v.category).sum = W) (hd : decode code pc = .ok (.invokestatic index, 3))
    (hk : (y.cls ≠ "java/lang/invoke/MethodHandle" ∧ y.cls ≠ "java/lang/invoke/VarHandle") ∧ rm.frames + 1 ≤ R.frames ∧ W + (maxL + 11) + rm.locals ≤ R.locals ∧ cells + rm.cells ≤ R.cells ∧ slots + rm.slots ≤ R.slots)
    (go : ∀ v T' L, Stand p l e R s m args below meth c T' (locs ++ L) (cells + rm.cells) (slots + rm.slots) → Q v T'.heap L → o_Go p.tables e below P T' (mkF m (pc + 3) Ls (v.toList ++ rest))) : o_Go p.tables e below P T (mkF m pc Ls S) := by
  obtain ⟨hx, hby⟩ := B
  obtain ⟨hZ, hown, hml⟩ := H
  obtain ⟨hy, hf, hl, hc, hn⟩ := hk
  have hsize : (mkF m pc Ls S).locals.size = c.maxLocals := hsz.trans hml.symm
  have hW : 2 * (mkF m pc Ls S).monitorRoom + (rest.map fun v => v.category).sum ≤ W := by show 2 * 0 + _ ≤ _; rw [hW0]; omega
  obtain ⟨v, _, ⟨T', L', k', n'⟩, -, X', ⟨L, hQ, q1, q2, q3⟩, st⟩ := Jvm.LawKit.callS X hx (y := y) hown (mvT hZ w1) (mvT hZ w2) (mvT hZ wz) (mvT hZ wc) hy (backOf (W := W) hM hZ wc wz hf hl) (g := mkF m pc Ls S) rfl hsize hlen hs hW (hb hby hd) (fun _ _ => ⟨hA, eT, hc, hn⟩)
  dsimp only [Pt.U, Pt.locs, Pt.cells, Pt.slots] at *
  subst q1 q2 q3
  exact o_go (st) (go v T' L X' hQ)
theorem o_csp (X : Stand p l e R s m args below meth c T locs cells slots) {ml : Nat} {code : ByteArray} {P : State → Outcome → Prop} (B : o_C p c code) {own : String} {index : Nat} {y : MethodName} {bytes : ByteArray} {maxL : Nat} {rm : Room} {A : Array Value} {Q : Option Value → Heap → List Loc → Prop} (H : o_H s Z m own c ml) (eT : T.heap = h)
    (hM : o_M l Z y bytes maxL none rm A h Q) (w1 : (Jvm.Cond.methodLink own index y).before a0 Z = true) (w2 : (Jvm.Cond.instanceMethod y).before a0 Z = true) (wz : (Jvm.Cond.initialized y.cls).before a0 Z = true) (wc : (Jvm.Cond.code y bytes maxL none).before a0 Z = true) (hi : y.name = "<init>")
    {pc : Nat} {Ls : Array Slot} {S : List Value} (hsz : Ls.size = ml) {argsL rest : List Value} (hlen : ∀ sig, parseMethodDescriptor y.desc = some sig → argsL.length = sig.parameters.length) (hA : (Value.ref a :: argsL).toArray = A) (hs : S = argsL.reverse ++ .ref a :: rest) {W : Nat} (hW0 : (rest.map fun v => v.category).sum = W) (hd : decode code pc = .ok (.invokespecial index, 3))
    (hk : (y.cls ≠ "java/lang/invoke/MethodHandle" ∧ y.cls ≠ "java/lang/invoke/VarHandle") ∧ rm.frames + 1 ≤ R.frames ∧ W + (maxL + 11) + rm.locals ≤ R.locals ∧ cells + rm.cells ≤ R.cells ∧ slots + rm.slots ≤ R.slots)
    (go : ∀ v T' L, Stand p l e R s m args below meth c T' (locs ++ L) (cells + rm.cells) (slots + rm.slots) → Q v T'.heap L → o_Go p.tables e below P T' (mkF m (pc + 3) Ls (v.toList ++ rest))) : o_Go p.tables e below P T (mkF m pc Ls S) := by
  obtain ⟨hx, hby⟩ := B
  obtain ⟨hZ, hown, hml⟩ := H
  obtain ⟨hy, hf, hl, hc, hn⟩ := hk
  have hsize : (mkF m pc Ls S).locals.size = c.maxLocals := hsz.trans hml.symm
  have hW : 2 * (mkF m pc Ls S).monitorRoom + (rest.map fun v => v.category).sum ≤ W := by show 2 * 0 + _ ≤ _; rw [hW0]; omega
  obtain ⟨v, _, ⟨T', L', k', n'⟩, -, X', ⟨L, hQ, q1, q2, q3⟩, st⟩ := X.specialBack hx (y := y) hi hown (mvT hZ w1) (mvT hZ w2) (mvT hZ wc) hy (backOf (W := W) hM hZ wc wz hf hl) (g := mkF m pc Ls S) rfl hsize (Steps.refl _) (a := a) hlen hs hW (hb hby hd) (fun _ _ => ⟨hA, eT, hc, hn⟩)
  dsimp only [Pt.U, Pt.locs, Pt.cells, Pt.slots] at *
  subst q1 q2 q3
  exact o_go (fun _ k => st.trans k) (go v T' L X' hQ)
theorem o_cpr (X : Stand p l e R s m args below meth c T locs cells slots) {ml : Nat} {code : ByteArray} {P : State → Outcome → Prop} (B : o_C p c code) {own C : String} {index : Nat} {y : MethodName} {bytes : ByteArray} {maxL : Nat} {ret : Option FieldType} {rm : Room} {A : Array Value} {Q : Option Value → Heap → List Loc → Prop} (H : o_H s Z m own c ml) (eT : T.heap = h)
    (hM : o_M l Z y bytes maxL ret rm A h Q) (w1 : (Jvm.Cond.methodLink own index y).before a0 Z = true) (w2 : (Jvm.Cond.instanceMethod y).before a0 Z = true) (wz : (Jvm.Cond.initialized y.cls).before a0 Z = true) (wc : (Jvm.Cond.code y bytes maxL ret).before a0 Z = true) (ws : (Jvm.Cond.selects C y y).before a0 Z = true) (wp : (Jvm.Cond.privateMethod y).before a0 Z = true) {K : String} (E : Exa Z h a K)
    {pc : Nat} {Ls : Array Slot} {S : List Value} (hsz : Ls.size = ml) {argsL rest : List Value} (hlen : ∀ sig, parseMethodDescriptor y.desc = some sig → argsL.length = sig.parameters.length) (hA : (Value.ref a :: argsL).toArray = A) (hs : S = argsL.reverse ++ .ref a :: rest) {W : Nat} (hW0 : (rest.map fun v => v.category).sum = W) (hd : decode code pc = .ok (.invokevirtual index, 3))
    (hk : (y.cls ≠ "java/lang/invoke/MethodHandle" ∧ y.cls ≠ "java/lang/invoke/VarHandle") ∧ rm.frames + 1 ≤ R.frames ∧ W + (maxL + 11) + rm.locals ≤ R.locals ∧ cells + rm.cells ≤ R.cells ∧ slots + rm.slots ≤ R.slots)
    (go : ∀ v T' L, Stand p l e R s m args below meth c T' (locs ++ L) (cells + rm.cells) (slots + rm.slots) → Q v T'.heap L → o_Go p.tables e below P T' (mkF m (pc + 3) Ls (v.toList ++ rest))) : o_Go p.tables e below P T (mkF m pc Ls S) := by
  obtain ⟨hx, hby⟩ := B
  obtain ⟨hZ, hown, hml⟩ := H
  obtain ⟨hy, hf, hl, hc, hn⟩ := hk
  have hsize : (mkF m pc Ls S).locals.size = c.maxLocals := hsz.trans hml.symm
  have hW : 2 * (mkF m pc Ls S).monitorRoom + (rest.map fun v => v.category).sum ≤ W := by show 2 * 0 + _ ≤ _; rw [hW0]; omega
  obtain ⟨cq, q, q'⟩ := E.cell
  obtain ⟨v, _, ⟨T', L', k', n'⟩, -, X', ⟨L, hQ, q1, q2, q3⟩, st⟩ := X.privateBack hx (y := y) hown (mvT hZ w1) (mvT hZ w2) (o_selfsel2 hZ ws w2 wp hy) (Cond.privateMethod_at (mvP hZ wp (args := #[]))) (mvT hZ wc) hy (backOf (W := W) hM hZ wc wz hf hl) (g := mkF m pc Ls S) rfl hsize (Steps.refl _) (a := a) (by rw [eT]; exact q) q' hlen hs hW (hb hby hd) (fun _ _ => ⟨hA, eT, hc, hn⟩)
  dsimp only [Pt.U, Pt.locs, Pt.cells, Pt.slots] at *
  subst q1 q2 q3
  exact o_go (fun _ k => st.trans k) (go v T' L X' hQ)
theorem o_csu (X : Stand p l e R s m args below meth c T locs cells slots) {ml : Nat} {code : ByteArray} {P : State → Outcome → Prop} (B : o_C p c code) {own C : String} {index : Nat} {y y' : MethodName} {bytes : ByteArray} {maxL : Nat} {ret : Option FieldType} {rm : Room} {A : Array Value} {Q : Option Value → Heap → List Loc → Prop} (H : o_H s Z m own c ml) (eT : T.heap = h)
    (hM : o_M l Z y bytes maxL ret rm A h Q) (w1 : (Jvm.Cond.methodLink own index y).before a0 Z = true) (w2 : (Jvm.Cond.instanceMethod y).before a0 Z = true) (wz : (Jvm.Cond.initialized y.cls).before a0 Z = true) (wc : (Jvm.Cond.code y bytes maxL ret).before a0 Z = true) (wd : (Jvm.Cond.declares y).before a0 Z = true) (ws : (Jvm.Cond.selects C y' y').before a0 Z = true) (he : y'.cls = y.cls) (wu : (Jvm.Cond.superclass own y.cls).before a0 Z = true) {K : String} (E : Exa Z h a K) (hn0 : y.name ≠ "<init>")
    {pc : Nat} {Ls : Array Slot} {S : List Value} (hsz : Ls.size = ml) {argsL rest : List Value} (hlen : ∀ sig, parseMethodDescriptor y.desc = some sig → argsL.length = sig.parameters.length) (hA : (Value.ref a :: argsL).toArray = A) (hs : S = argsL.reverse ++ .ref a :: rest) {W : Nat} (hW0 : (rest.map fun v => v.category).sum = W) (hd : decode code pc = .ok (.invokespecial index, 3))
    (hk : (y.cls ≠ "java/lang/invoke/MethodHandle" ∧ y.cls ≠ "java/lang/invoke/VarHandle") ∧ rm.frames + 1 ≤ R.frames ∧ W + (maxL + 11) + rm.locals ≤ R.locals ∧ cells + rm.cells ≤ R.cells ∧ slots + rm.slots ≤ R.slots)
    (go : ∀ v T' L, Stand p l e R s m args below meth c T' (locs ++ L) (cells + rm.cells) (slots + rm.slots) → Q v T'.heap L → o_Go p.tables e below P T' (mkF m (pc + 3) Ls (v.toList ++ rest))) : o_Go p.tables e below P T (mkF m pc Ls S) := by
  obtain ⟨hx, hby⟩ := B
  obtain ⟨hZ, hown, hml⟩ := H
  obtain ⟨hy, hf, hl, hc, hn⟩ := hk
  have hsize : (mkF m pc Ls S).locals.size = c.maxLocals := hsz.trans hml.symm
  have hW : 2 * (mkF m pc Ls S).monitorRoom + (rest.map fun v => v.category).sum ≤ W := by show 2 * 0 + _ ≤ _; rw [hW0]; omega
  obtain ⟨v, _, ⟨T', L', k', n'⟩, -, X', ⟨L, hQ, q1, q2, q3⟩, st⟩ := superBack X hx hZ (y := y) hown w1 (o_samesup wd ws he hy) w2 wu hn0 (backOf (W := W) hM hZ wc wz hf hl) eT (Ins.self E) (g := mkF m pc Ls S) rfl hsize wc hlen hs hW (hb hby hd) (fun _ _ => ⟨hA, eT, hc, hn⟩)
  dsimp only [Pt.U, Pt.locs, Pt.cells, Pt.slots] at *
  subst q1 q2 q3
  exact o_go (fun _ k => st.trans k) (go v T' L X' hQ)
theorem o_cvi (X : Stand p l e R s m args below meth c T locs cells slots) {ml : Nat} {code : ByteArray} {P : State → Outcome → Prop} (B : o_C p c code) {own C C' : String} {index : Nat} {x y y' : MethodName} {bytes : ByteArray} {maxL : Nat} {ret : Option FieldType} {rm : Room} {A : Array Value} {Q : Option Value → Heap → List Loc → Prop} (H : o_H s Z m own c ml) (eT : T.heap = h)
    (hM : o_M l Z y bytes maxL ret rm A h Q) (w1 : (Jvm.Cond.methodLink own index x).before a0 Z = true) (w2 : (Jvm.Cond.instanceMethod y).before a0 Z = true) (wz : (Jvm.Cond.initialized y.cls).before a0 Z = true) (wc : (Jvm.Cond.code y bytes maxL ret).before a0 Z = true) (wd : (Jvm.Cond.declares x).before a0 Z = true) (ws : (Jvm.Cond.selects C x y).before a0 Z = true) (wn : (Jvm.Cond.selects C' y' y').before a0 Z = true) (he : y'.cls = x.cls) (E : Exa Z h a C)
    {pc : Nat} {Ls : Array Slot} {S : List Value} (hsz : Ls.size = ml) {argsL rest : List Value} (hlen : ∀ sig, parseMethodDescriptor x.desc = some sig → argsL.length = sig.parameters.length) (hA : (Value.ref a :: argsL).toArray = A) (hs : S = argsL.reverse ++ .ref a :: rest) {W : Nat} (hW0 : (rest.map fun v => v.category).sum = W) (hd : decode code pc = .ok (.invokevirtual index, 3))
    (hk : (x.cls ≠ "java/lang/invoke/MethodHandle" ∧ x.cls ≠ "java/lang/invoke/VarHandle") ∧ rm.frames + 1 ≤ R.frames ∧ W + (maxL + 11) + rm.locals ≤ R.locals ∧ cells + rm.cells ≤ R.cells ∧ slots + rm.slots ≤ R.slots)
    (go : ∀ v T' L, Stand p l e R s m args below meth c T' (locs ++ L) (cells + rm.cells) (slots + rm.slots) → Q v T'.heap L → o_Go p.tables e below P T' (mkF m (pc + 3) Ls (v.toList ++ rest))) : o_Go p.tables e below P T (mkF m pc Ls S) := by
  obtain ⟨hx, hby⟩ := B
  obtain ⟨hZ, hown, hml⟩ := H
  obtain ⟨hy, hf, hl, hc, hn⟩ := hk
  have hsize : (mkF m pc Ls S).locals.size = c.maxLocals := hsz.trans hml.symm
  have hW : 2 * (mkF m pc Ls S).monitorRoom + (rest.map fun v => v.category).sum ≤ W := by show 2 * 0 + _ ≤ _; rw [hW0]; omega
  obtain ⟨cq, kq, qa, qb, qc⟩ := isOf hZ eT E
  obtain ⟨v, _, ⟨T', L', k', n'⟩, -, X', ⟨L, hQ, q1, q2, q3⟩, st⟩ := X.virtualBack hx (y := x) (z := y) hown (mvT hZ w1) (mvT hZ wd) (o_nfsel hZ wn he) (mvT hZ ws) (mvT hZ w2) hy (backOf (W := W) hM hZ wc wz hf hl) qa qc (g := mkF m pc Ls S) rfl hsize (Steps.refl _) hlen hs hW (hb hby hd) (fun _ _ => ⟨hA, eT, hc, hn⟩)
  dsimp only [Pt.U, Pt.locs, Pt.cells, Pt.slots] at *
  subst q1 q2 q3
  exact o_go (fun _ k => st.trans k) (go v T' L X' hQ)
theorem o_cup (X : Stand p l e R s m args below meth c T locs cells slots) {ml : Nat} {code : ByteArray} {P : State → Outcome → Prop} (B : o_C p c code) {own C owner : String} {index : Nat} {x y : MethodName} {bytes : ByteArray} {maxL : Nat} {ret : Option FieldType} {rm : Room} {A : Array Value} {Q : Option Value → Heap → List Loc → Prop} (H : o_H s Z m own c ml) (eT : T.heap = h)
    (hM : o_M l Z y bytes maxL ret rm A h Q) (w1 : (Jvm.Cond.methodLink own index x).before a0 Z = true) (w2 : (Jvm.Cond.instanceMethod y).before a0 Z = true) (wz : (Jvm.Cond.initialized y.cls).before a0 Z = true) (wc : (Jvm.Cond.code y bytes maxL ret).before a0 Z = true) (wd : (Jvm.Cond.declares ⟨owner, x.name, x.desc⟩).before a0 Z = true) (ws : (Jvm.Cond.selects C x y).before a0 Z = true) (wn : (Jvm.Cond.sameMethod x.cls owner x.name x.desc).before a0 Z = true) (E : Exa Z h a C)
    {pc : Nat} {Ls : Array Slot} {S : List Value} (hsz : Ls.size = ml) {argsL rest : List Value} (hlen : ∀ sig, parseMethodDescriptor x.desc = some sig → argsL.length = sig.parameters.length) (hA : (Value.ref a :: argsL).toArray = A) (hs : S = argsL.reverse ++ .ref a :: rest) {W : Nat} (hW0 : (rest.map fun v => v.category).sum = W) (hd : decode code pc = .ok (.invokevirtual index, 3))
    (hk : (owner ≠ "java/lang/invoke/MethodHandle" ∧ owner ≠ "java/lang/invoke/VarHandle") ∧ rm.frames + 1 ≤ R.frames ∧ W + (maxL + 11) + rm.locals ≤ R.locals ∧ cells + rm.cells ≤ R.cells ∧ slots + rm.slots ≤ R.slots)
    (go : ∀ v T' L, Stand p l e R s m args below meth c T' (locs ++ L) (cells + rm.cells) (slots + rm.slots) → Q v T'.heap L → o_Go p.tables e below P T' (mkF m (pc + 3) Ls (v.toList ++ rest))) : o_Go p.tables e below P T (mkF m pc Ls S) := by
  obtain ⟨hx, hby⟩ := B
  obtain ⟨hZ, hown, hml⟩ := H
  obtain ⟨hy, hf, hl, hc, hn⟩ := hk
  have hsize : (mkF m pc Ls S).locals.size = c.maxLocals := hsz.trans hml.symm
  have hW : 2 * (mkF m pc Ls S).monitorRoom + (rest.map fun v => v.category).sum ≤ W := by show 2 * 0 + _ ≤ _; rw [hW0]; omega
  obtain ⟨cq, kq, qa, qb, qc⟩ := isOf hZ eT E
  obtain ⟨v, _, ⟨T', L', k', n'⟩, -, X', ⟨L, hQ, q1, q2, q3⟩, st⟩ := X.virtualBackUp hx (x := x) (y := y) (owner := owner) hown (mvT hZ w1) (mvT hZ wn) (mvT hZ wd) hy (mvT hZ ws) (mvT hZ w2) (backOf (W := W) hM hZ wc wz hf hl) qa qc (g := mkF m pc Ls S) rfl hsize (Steps.refl _) hlen hs hW (hb hby hd) (fun _ _ => ⟨hA, eT, hc, hn⟩)
  dsimp only [Pt.U, Pt.locs, Pt.cells, Pt.slots] at *
  subst q1 q2 q3
  exact o_go (fun _ k => st.trans k) (go v T' L X' hQ)
/-- the return -/
theorem o_ret {Q : Option Value → Heap → List Loc → Prop} {rm : Room} {code : ByteArray} (X : Stand p l e R s m args below meth c T locs cells slots) (B : o_C p c code) {pc : Nat} {Ls : Array Slot} {w : Value} {t : FieldType} {i : Instr} {rest : List Value} (hret : meth.sig.returnType = some t ∧ meth.locks = false) (hn : narrow t w = w)
    (hi : (i = .ireturn ∧ (t = .int ∨ t = .boolean ∨ t = .byte ∨ t = .char ∨ t = .short) ∧ ∃ z, w = .int z) ∨ (i = .lreturn ∧ t = .long ∧ ∃ z, w = .long z) ∨ (i = .dreturn ∧ t = .double ∧ ∃ z, w = .double z) ∨ (i = .freturn ∧ t = .float ∧ ∃ z, w = .float z) ∨ (i = .areturn ∧ t.isReference = true ∧ w.isRef = true))
    (hd : decode code pc = .ok (i, 1)) (hc : cells ≤ rm.cells ∧ slots ≤ rm.slots) (eT : T.heap = h) (hQ : Q (some w) h locs) : o_Go p.tables e below (o_P below s Q rm) T (mkF m pc Ls (w :: rest)) := by
  obtain ⟨fs, hr, hrun, hended, hW, hsame⟩ := X.leave (v := some w) (fun h => by rw [hret.1] at h; cases h) hret.2
  exact ⟨_, _, retOut X B.1 hret.1 hn hi (hb B.2 hd) hr, hrun, hended, _, _, rfl, (by show Q _ T.heap _; rw [eT]; exact hQ), ⟨_, rfl⟩, hW, hsame.mono hc.1 hc.2⟩
theorem o_retI {Q : Option Value → Heap → List Loc → Prop} {rm : Room} {code : ByteArray} (X : Stand p l e R s m args below meth c T locs cells slots) (B : o_C p c code) {pc : Nat} {Ls : Array Slot} {x : Int32} {t : FieldType} {rest : List Value} (hret : meth.sig.returnType = some t ∧ meth.locks = false) (ht : t = .int ∨ t = .boolean ∨ t = .byte ∨ t = .char ∨ t = .short) (hn : narrow t (.int x) = .int x)
    (hd : decode code pc = .ok (.ireturn, 1)) (hc : cells ≤ rm.cells ∧ slots ≤ rm.slots) (eT : T.heap = h) (hQ : Q (some (.int x)) h locs) : o_Go p.tables e below (o_P below s Q rm) T (mkF m pc Ls (.int x :: rest)) :=
  o_ret X B hret hn (Or.inl ⟨rfl, ht, _, rfl⟩) hd hc eT hQ
theorem o_retA {Q : Option Value → Heap → List Loc → Prop} {rm : Room} {code : ByteArray} (X : Stand p l e R s m args below meth c T locs cells slots) (B : o_C p c code) {pc : Nat} {Ls : Array Slot} {w : Value} {t : FieldType} {rest : List Value} (hret : meth.sig.returnType = some t ∧ meth.locks = false) (ht : t.isReference = true) (hr : w.isRef = true) (hn : narrow t w = w)
    (hd : decode code pc = .ok (.areturn, 1)) (hc : cells ≤ rm.cells ∧ slots ≤ rm.slots) (eT : T.heap = h) (hQ : Q (some w) h locs) : o_Go p.tables e below (o_P below s Q rm) T (mkF m pc Ls (w :: rest)) :=
  o_ret X B hret hn (Or.inr (Or.inr (Or.inr (Or.inr ⟨rfl, ht, hr⟩)))) hd hc eT hQ
theorem o_retV {Q : Option Value → Heap → List Loc → Prop} {rm : Room} {code : ByteArray} (X : Stand p l e R s m args below meth c T locs cells slots) (B : o_C p c code) {pc : Nat} {Ls : Array Slot} (hret : meth.sig.returnType = none ∧ meth.locks = false)
    (hd : decode code pc = .ok (.return_, 1)) (hc : cells ≤ rm.cells ∧ slots ≤ rm.slots) (eT : T.heap = h) (hQ : Q none h locs) : o_Go p.tables e below (o_P below s Q rm) T (mkF m pc Ls []) := by
  obtain ⟨fs, hr, hrun, hended, hW, hsame⟩ := X.leave (v := none) (fun _ => rfl) hret.2
  exact ⟨_, _, X.returnOut B.1 hret.1 (hb B.2 hd) hr, hrun, hended, _, _, rfl, (by show Q _ T.heap _; rw [eT]; exact hQ), ⟨_, rfl⟩, hW, hsame.mono hc.1 hc.2⟩
theorem o_gf {P : State → Outcome → Prop} {code : ByteArray} {ml : Nat} {own O n d : String} {index : Nat} {v : Value} {rest : List Value} (X : Stand p l e R s m args below meth c T locs cells slots) (B : o_C p c code) (H : o_H s Z m own c ml) (w : (Jvm.Cond.fieldLink own index O n d).before a0 Z = true) (eT : T.heap = h) (F : Fld Z h a O n d v)
    {pc : Nat} {Ls : Array Slot} (hd : decode code pc = .ok (.getfield index, 3)) (go : ∀ T', Stand p l e R s m args below meth c T' locs cells slots → T'.heap = h → o_Go p.tables e below P T' (mkF m (pc + 3) Ls (v :: rest))) : o_Go p.tables e below P T (mkF m pc Ls (.ref a :: rest)) := by
  obtain ⟨T', X', e', st⟩ := getF X B.1 H.1 H.2.1 (host := "") (Or.inl w) Via.refl eT F (g := mkF m pc Ls (.ref a :: rest)) rfl rfl (hb B.2 hd)
  exact o_go st (go T' X' e')
theorem o_gs {P : State → Outcome → Prop} {code : ByteArray} {ml : Nat} {own O n d : String} {index : Nat} {v : Value} (X : Stand p l e R s m args below meth c T locs cells slots) (B : o_C p c code) (H : o_H s Z m own c ml) (w : (Jvm.Cond.fieldLink own index O n d).before a0 Z = true) (eT : T.heap = h) (F : Sta Z h O n d v)
    {pc : Nat} {Ls : Array Slot} {S : List Value} (hd : decode code pc = .ok (.getstatic index, 3)) (go : ∀ T', Stand p l e R s m args below meth c T' locs cells slots → T'.heap = h → o_Go p.tables e below P T' (mkF m (pc + 3) Ls (v :: S))) : o_Go p.tables e below P T (mkF m pc Ls S) := by
  obtain ⟨T', X', e', st⟩ := getS2 X B.1 H.1 H.2.1 (host := "") (Or.inl w) Via.refl eT F (g := mkF m pc Ls S) rfl (hb B.2 hd)
  exact o_go st (go T' X' e')
section
variable {code : ByteArray} {P : State → Outcome → Prop} {L : Array Slot} {S : List Value} {pc : Nat}
theorem xa (X : Stand p l e R s m args below meth c T locs cells slots) (B : o_C p c code) {k : Fin 4} {v : Value} (hd : decode code pc = .ok (.aload_n k, 1)) (hl : L[k.val]? = some (.val v)) (hv : v.isRef = true) (go : o_Go p.tables e below P T (mkF m (pc + 1) L (v :: S))) : o_Go p.tables e below P T (mkF m pc L S) := o_go (fun _ k_ => XS.aloadN X.here B.1 rfl (hb B.2 hd) hl hv k_) go
theorem xA (X : Stand p l e R s m args below meth c T locs cells slots) (B : o_C p c code) {k : Nat} {v : Value} (hd : decode code pc = .ok (.aload k, 2)) (hl : L[k]? = some (.val v)) (hv : v.isRef = true) (go : o_Go p.tables e below P T (mkF m (pc + 2) L (v :: S))) : o_Go p.tables e below P T (mkF m pc L S) := o_go (fun _ k_ => XS.aload X.here B.1 rfl (hb B.2 hd) hl hv k_) go
theorem xi (X : Stand p l e R s m args below meth c T locs cells slots) (B : o_C p c code) {k : Fin 4} {v : Int32} (hd : decode code pc = .ok (.iload_n k, 1)) (hl : L[k.val]? = some (.val (.int v))) (go : o_Go p.tables e below P T (mkF m (pc + 1) L (.int v :: S))) : o_Go p.tables e below P T (mkF m pc L S) := o_go (fun _ k_ => XS.iloadN X.here B.1 rfl (hb B.2 hd) hl k_) go
theorem xI (X : Stand p l e R s m args below meth c T locs cells slots) (B : o_C p c code) {k : Nat} {v : Int32} (hd : decode code pc = .ok (.iload k, 2)) (hl : L[k]? = some (.val (.int v))) (go : o_Go p.tables e below P T (mkF m (pc + 2) L (.int v :: S))) : o_Go p.tables e below P T (mkF m pc L S) := o_go (fun _ k_ => XS.iload X.here B.1 rfl (hb B.2 hd) hl k_) go
theorem xc (X : Stand p l e R s m args below meth c T locs cells slots) (B : o_C p c code) {i : Int} (hd : decode code pc = .ok (.iconst i, 1)) (z : Int32) (hz : Int32.ofInt i = z) (go : o_Go p.tables e below P T (mkF m (pc + 1) L (.int z :: S))) : o_Go p.tables e below P T (mkF m pc L S) := by
  subst hz; exact o_go (fun _ k_ => XS.iconst X.here B.1 rfl (hb B.2 hd) k_) go
theorem xb (X : Stand p l e R s m args below meth c T locs cells slots) (B : o_C p c code) {i : Int} (hd : decode code pc = .ok (.bipush i, 2)) (z : Int32) (hz : (Int8.ofInt i).toInt32 = z) (go : o_Go p.tables e below P T (mkF m (pc + 2) L (.int z :: S))) : o_Go p.tables e below P T (mkF m pc L S) := by
  subst hz; exact o_go (fun _ k_ => XS.bipush X.here B.1 rfl (hb B.2 hd) k_) go
theorem xh (X : Stand p l e R s m args below meth c T locs cells slots) (B : o_C p c code) {i : Int} (hd : decode code pc = .ok (.sipush i, 3)) (z : Int32) (hz : (Int16.ofInt i).toInt32 = z) (go : o_Go p.tables e below P T (mkF m (pc + 3) L (.int z :: S))) : o_Go p.tables e below P T (mkF m pc L S) := by
  subst hz; exact o_go (fun _ k_ => XS.sipush X.here B.1 rfl (hb B.2 hd) k_) go
theorem xd (X : Stand p l e R s m args below meth c T locs cells slots) (B : o_C p c code) {x : Value} (hd : decode code pc = .ok (.dup, 1)) (hc : x.category = 1) (go : o_Go p.tables e below P T (mkF m (pc + 1) L (x :: x :: S))) : o_Go p.tables e below P T (mkF m pc L (x :: S)) := o_go (fun _ k_ => XS.dup X.here B.1 rfl (hb B.2 hd) rfl hc k_) go
theorem xu (X : Stand p l e R s m args below meth c T locs cells slots) (B : o_C p c code)  (hd : decode code pc = .ok (.aconst_null, 1))  (go : o_Go p.tables e below P T (mkF m (pc + 1) L (.null :: S))) : o_Go p.tables e below P T (mkF m pc L S) := o_go (fun _ k_ => XS.aconstNull X.here B.1 rfl (hb B.2 hd) k_) go
theorem xs (X : Stand p l e R s m args below meth c T locs cells slots) (B : o_C p c code) {k : Fin 4} {x : Int32} {l' : Array Slot} (hd : decode code pc = .ok (.istore_n k, 1)) (hl : storeLocals L k.val (.int x) = some l') (go : o_Go p.tables e below P T (mkF m (pc + 1) l' S)) : o_Go p.tables e below P T (mkF m pc L (.int x :: S)) := o_go (fun _ k_ => XS.istoreN X.here B.1 rfl (hb B.2 hd) rfl hl k_) go
theorem xS (X : Stand p l e R s m args below meth c T locs cells slots) (B : o_C p c code) {k : Nat} {x : Int32} {l' : Array Slot} (hd : decode code pc = .ok (.istore k, 2)) (hl : storeLocals L k (.int x) = some l') (go : o_Go p.tables e below P T (mkF m (pc + 2) l' S)) : o_Go p.tables e below P T (mkF m pc L (.int x :: S)) := o_go (fun _ k_ => XS.istore X.here B.1 rfl (hb B.2 hd) rfl hl k_) go
theorem xt (X : Stand p l e R s m args below meth c T locs cells slots) (B : o_C p c code) {k : Fin 4} {x : Value} {l' : Array Slot} (hd : decode code pc = .ok (.astore_n k, 1)) (hv : x.isRef = true) (hl : storeLocals L k.val x = some l') (go : o_Go p.tables e below P T (mkF m (pc + 1) l' S)) : o_Go p.tables e below P T (mkF m pc L (x :: S)) := o_go (fun _ k_ => XS.astoreN X.here B.1 rfl (hb B.2 hd) rfl hv hl k_) go
theorem xT (X : Stand p l e R s m args below meth c T locs cells slots) (B : o_C p c code) {k : Nat} {x : Value} {l' : Array Slot} (hd : decode code pc = .ok (.astore k, 2)) (hv : x.isRef = true) (hl : storeLocals L k x = some l') (go : o_Go p.tables e below P T (mkF m (pc + 2) l' S)) : o_Go p.tables e below P T (mkF m pc L (x :: S)) := o_go (fun _ k_ => XS.astore X.here B.1 rfl (hb B.2 hd) rfl hv hl k_) go
theorem xsub (X : Stand p l e R s m args below meth c T locs cells slots) (B : o_C p c code) {x y : Int32} (hd : decode code pc = .ok (.isub, 1)) (z : Int32) (hz : x - y = z) (go : o_Go p.tables e below P T (mkF m (pc + 1) L (.int z :: S))) : o_Go p.tables e below P T (mkF m pc L (.int y :: .int x :: S)) := by
  subst hz; exact o_go (fun _ k_ => XS.isub X.here B.1 rfl (hb B.2 hd) rfl k_) go
theorem xadd (X : Stand p l e R s m args below meth c T locs cells slots) (B : o_C p c code) {x y : Int32} (hd : decode code pc = .ok (.iadd, 1)) (z : Int32) (hz : x + y = z) (go : o_Go p.tables e below P T (mkF m (pc + 1) L (.int z :: S))) : o_Go p.tables e below P T (mkF m pc L (.int y :: .int x :: S)) := by
  subst hz; exact o_go (fun _ k_ => XS.iadd X.here B.1 rfl (hb B.2 hd) rfl k_) go
theorem xand (X : Stand p l e R s m args below meth c T locs cells slots) (B : o_C p c code) {x y : Int32} (hd : decode code pc = .ok (.iand, 1)) (z : Int32) (hz : x &&& y = z) (go : o_Go p.tables e below P T (mkF m (pc + 1) L (.int z :: S))) : o_Go p.tables e below P T (mkF m pc L (.int y :: .int x :: S)) := by
  subst hz; exact o_go (fun _ k_ => XS.iand X.here B.1 rfl (hb B.2 hd) rfl k_) go
theorem xn (X : Stand p l e R s m args below meth c T locs cells slots) (B : o_C p c code) {cd : ClassFile.Cond} {o : Int} {x : Int32} (hd : decode code pc = .ok (.ifCond cd o, 3)) (hc : ifCond.holds cd x = false) (go : o_Go p.tables e below P T (mkF m (pc + 3) L S)) : o_Go p.tables e below P T (mkF m pc L (.int x :: S)) := o_go (fun _ k_ => XS.ifNo X.here B.1 rfl (hb B.2 hd) rfl hc k_) go
theorem xm (X : Stand p l e R s m args below meth c T locs cells slots) (B : o_C p c code) {cd : ClassFile.Cond} {o : Int} {x y : Int32} (hd : decode code pc = .ok (.if_icmp cd o, 3)) (hc : if_icmp.holds cd x y = false) (go : o_Go p.tables e below P T (mkF m (pc + 3) L S)) : o_Go p.tables e below P T (mkF m pc L (.int y :: .int x :: S)) := o_go (fun _ k_ => XS.icmpNo X.here B.1 rfl (hb B.2 hd) rfl hc k_) go
theorem xy (X : Stand p l e R s m args below meth c T locs cells slots) (B : o_C p c code) {cd : ClassFile.Cond} {o : Int} {x : Int32} (pc0 pc' : Nat) (hpc : pc = pc0) (hd : decode code pc0 = .ok (.ifCond cd o, 3)) (hc : ifCond.holds cd x = true) (ho : 0 ≤ (pc0 : Int) + o ∧ ((pc0 : Int) + o).toNat = pc') (go : o_Go p.tables e below P T (mkF m pc' L S)) : o_Go p.tables e below P T (mkF m pc L (.int x :: S)) := by
  subst hpc; exact o_go (fun _ k_ => XS.ifYes X.here B.1 rfl rfl (hb B.2 hd) rfl hc ho.1 ho.2 k_) go
theorem xM (X : Stand p l e R s m args below meth c T locs cells slots) (B : o_C p c code) {cd : ClassFile.Cond} {o : Int} {x y : Int32} (pc0 pc' : Nat) (hpc : pc = pc0) (hd : decode code pc0 = .ok (.if_icmp cd o, 3)) (hc : if_icmp.holds cd x y = true) (ho : 0 ≤ (pc0 : Int) + o ∧ ((pc0 : Int) + o).toNat = pc') (go : o_Go p.tables e below P T (mkF m pc' L S)) : o_Go p.tables e below P T (mkF m pc L (.int y :: .int x :: S)) := by
  subst hpc; exact o_go (fun _ k_ => XS.icmpYes X.here B.1 rfl rfl (hb B.2 hd) rfl hc ho.1 ho.2 k_) go
theorem xg (X : Stand p l e R s m args below meth c T locs cells slots) (B : o_C p c code) {o : Int} (pc0 pc' : Nat) (hpc : pc = pc0) (hd : decode code pc0 = .ok (.goto o, 3))  (ho : 0 ≤ (pc0 : Int) + o ∧ ((pc0 : Int) + o).toNat = pc') (go : o_Go p.tables e below P T (mkF m pc' L S)) : o_Go p.tables e below P T (mkF m pc L S) := by
  subst hpc; exact o_go (fun _ k_ => XS.goto X.here B.1 rfl rfl (hb B.2 hd)  ho.1 ho.2 k_) go
theorem xshl (X : Stand p l e R s m args below meth c T locs cells slots) (B : o_C p c code) {x y : Int32} (hd : decode code pc = .ok (.ishl, 1)) (z : Int32) (hz : x <<< (y &&& 31) = z) (go : o_Go p.tables e below P T (mkF m (pc + 1) L (.int z :: S))) : o_Go p.tables e below P T (mkF m pc L (.int y :: .int x :: S)) := by
  subst hz; exact o_go (fun _ k_ => XS.ishl X.here B.1 rfl (hb B.2 hd) rfl k_) go
theorem xshr (X : Stand p l e R s m args below meth c T locs cells slots) (B : o_C p c code) {x y : Int32} (hd : decode code pc = .ok (.ishr, 1)) (z : Int32) (hz : x >>> (y &&& 31) = z) (go : o_Go p.tables e below P T (mkF m (pc + 1) L (.int z :: S))) : o_Go p.tables e below P T (mkF m pc L (.int y :: .int x :: S)) := by
  subst hz; exact o_go (fun _ k_ => XS.ishr X.here B.1 rfl (hb B.2 hd) rfl k_) go
theorem xp (X : Stand p l e R s m args below meth c T locs cells slots) (B : o_C p c code) {x : Value} (hd : decode code pc = .ok (.pop, 1)) (hc : x.category = 1) (go : o_Go p.tables e below P T (mkF m (pc + 1) L S)) : o_Go p.tables e below P T (mkF m pc L (x :: S)) := o_go (fun _ k_ => XS.pop X.here B.1 rfl (hb B.2 hd) rfl hc k_) go
theorem xN (X : Stand p l e R s m args below meth c T locs cells slots) (B : o_C p c code) {b : Addr} {o : Int} (pc0 pc' : Nat) (hpc : pc = pc0) (hd : decode code pc0 = .ok (.ifnonnull o, 3)) (ho : 0 ≤ (pc0 : Int) + o ∧ ((pc0 : Int) + o).toNat = pc') (go : o_Go p.tables e below P T (mkF m pc' L S)) : o_Go p.tables e below P T (mkF m pc L (.ref b :: S)) := by
  subst hpc; exact o_go (fun _ k_ => XS.ifnonnullYes X.here B.1 rfl rfl (hb B.2 hd) rfl ho.1 ho.2 k_) go
theorem xl (X : Stand p l e R s m args below meth c T locs cells slots) (B : o_C p c code) {own : String} {ml : Nat} (H : o_H s Z m own c ml) (eT : T.heap = h) {ty : FieldType} {z : Int32} {f : Nat → Value} (F : o_AV Z h a ty z f) (hd : decode code pc = .ok (.arraylength, 1)) (go : o_Go p.tables e below P T (mkF m (pc + 1) L (.int z :: S))) : o_Go p.tables e below P T (mkF m pc L (.ref a :: S)) := o_go (fun _ k_ => o_len X B.1 H.1 eT F (g := mkF m pc L (.ref a :: S)) rfl rfl (hb B.2 hd) _ k_) go
end
end
def o_PS (p : Program) (l : Launch) (e : Env) (R : Room) (s : State) (m : MethodId) (args : Array Value) (below : List Frame) (meth : Method) (c : Code) (cells slots : Nat) (Z : State) (a : Addr) (z : Int32) (n0 : Nat) (hA : Heap) (T : State) (h : Heap) (locs : List Loc) (L : List Int32) : Prop :=
  Stand p l e R s m args below meth c T locs cells slots ∧ T.heap = h ∧ o_AV Z h a .char z (o_ch (o_ls L)) ∧ L.length = z.toNatClampNeg ∧ Fr n0 locs ∧ Keep hA h [a]
section
variable {p : Program} {l : Launch} {e : Env} {R : Room} {s : State} {m : MethodId} {args : Array Value} {below : List Frame} {meth : Method} {c : Code} {T : State} {locs : List Loc} {cells slots : Nat} {Z : State} {h hA : Heap} {a : Addr} {z : Int32} {n0 : Nat} {L : List Int32} {P : State → Outcome → Prop} {bytes : ByteArray} {A : Array Slot} {rest : List Value}
theorem o_p4 (S : o_PS p l e R s m args below meth c cells slots Z a z n0 hA T h locs L) (hx : p.tables.exec = Jvm.exec) (hZ : Z.Warmed39 s.vm) (ge : n0 ≤ a) {k' v : Int32} {k : Nat} (q0 : k'.toNatClampNeg = k) (q1 : ¬ k' < 0 ∧ k' < z) (hv : nar .char v = v) {p0 p3 p4 : Nat} (q4 : p3 + 1 = p4)
    (st : ∀ target, Steps p.tables e below (T.setTop (mkF m p3 A (.int v :: .int k' :: .ref a :: .ref a :: rest))) target → Steps p.tables e below (T.setTop (mkF m p0 A (.ref a :: rest))) target) (hd : decode c.code p3 = .ok (.castore, 1))
    (go : ∀ T' h' L', o_PS p l e R s m args below meth c cells slots Z a z n0 hA T' h' L' (L.set k v) → o_Go p.tables e below P T' (mkF m p4 A (.ref a :: rest))) : o_Go p.tables e below P T (mkF m p0 A (.ref a :: rest)) :=
  o_put4 S.1 hx hZ S.2.1 S.2.2.1 S.2.2.2.1 S.2.2.2.2.1 S.2.2.2.2.2 ge q0 q1 hv q4 st hd fun T' h' L' h1 h2 h3 h4 h5 h6 => go T' h' L' ⟨h1, h2, h3, h4, h5, h6⟩
theorem o_pB (S : o_PS p l e R s m args below meth c cells slots Z a z n0 hA T h locs L) (hx : p.tables.exec = Jvm.exec) (hZ : Z.Warmed39 s.vm) (hby : c.code = bytes) (ge : n0 ≤ a) {i w : Int} {k : Nat} {v : Int32} {p0 p4 : Nat} (d0 : decode bytes p0 = .ok (.dup, 1)) (d1 : decode bytes (p0 + 1) = .ok (.bipush i, 2)) (d2 : decode bytes (p0 + 1 + 2) = .ok (.bipush w, 2)) (d3 : decode bytes (p0 + 1 + 2 + 2) = .ok (.castore, 1))
    (q : ((Int8.ofInt i).toInt32.toNatClampNeg = k ∧ ¬ (Int8.ofInt i).toInt32 < 0 ∧ (Int8.ofInt i).toInt32 < z) ∧ (Int8.ofInt w).toInt32 = v ∧ nar .char v = v) (q4 : p0 + 1 + 2 + 2 + 1 = p4)
    (go : ∀ T' h' L', o_PS p l e R s m args below meth c cells slots Z a z n0 hA T' h' L' (L.set k v) → o_Go p.tables e below P T' (mkF m p4 A (.ref a :: rest))) : o_Go p.tables e below P T (mkF m p0 A (.ref a :: rest)) := by
  obtain ⟨⟨q0, q1⟩, rfl, q3⟩ := q
  exact o_p4 S hx hZ ge q0 q1 q3 q4 (fun _ kk => XS.dup S.1.here hx rfl (hb hby d0) rfl rfl (XS.bipush S.1.here hx rfl (hb hby d1) (XS.bipush S.1.here hx rfl (hb hby d2) kk))) (hb hby d3) go
theorem o_pI (S : o_PS p l e R s m args below meth c cells slots Z a z n0 hA T h locs L) (hx : p.tables.exec = Jvm.exec) (hZ : Z.Warmed39 s.vm) (hby : c.code = bytes) (ge : n0 ≤ a) {i w : Int} {k : Nat} {v : Int32} {p0 p4 : Nat} (d0 : decode bytes p0 = .ok (.dup, 1)) (d1 : decode bytes (p0 + 1) = .ok (.iconst i, 1)) (d2 : decode bytes (p0 + 1 + 1) = .ok (.bipush w, 2)) (d3 : decode bytes (p0 + 1 + 1 + 2) = .ok (.castore, 1))
    (q : ((Int32.ofInt i).toNatClampNeg = k ∧ ¬ Int32.ofInt i < 0 ∧ Int32.ofInt i < z) ∧ (Int8.ofInt w).toInt32 = v ∧ nar .char v = v) (q4 : p0 + 1 + 1 + 2 + 1 = p4)
    (go : ∀ T' h' L', o_PS p l e R s m args below meth c cells slots Z a z n0 hA T' h' L' (L.set k v) → o_Go p.tables e below P T' (mkF m p4 A (.ref a :: rest))) : o_Go p.tables e below P T (mkF m p0 A (.ref a :: rest)) := by
  obtain ⟨⟨q0, q1⟩, rfl, q3⟩ := q
  exact o_p4 S hx hZ ge q0 q1 q3 q4 (fun _ kk => XS.dup S.1.here hx rfl (hb hby d0) rfl rfl (XS.iconst S.1.here hx rfl (hb hby d1) (XS.bipush S.1.here hx rfl (hb hby d2) kk))) (hb hby d3) go
theorem o_pL (S : o_PS p l e R s m args below meth c cells slots Z a z n0 hA T h locs L) (hx : p.tables.exec = Jvm.exec) (hZ : Z.Warmed39 s.vm) (hby : c.code = bytes) (ge : n0 ≤ a) {i : Int} {n k : Nat} {v : Int32} {p0 p4 : Nat} (d0 : decode bytes p0 = .ok (.dup, 1)) (d1 : decode bytes (p0 + 1) = .ok (.bipush i, 2)) (d2 : decode bytes (p0 + 1 + 2) = .ok (.iload n, 2)) (d3 : decode bytes (p0 + 1 + 2 + 2) = .ok (.castore, 1))
    (q : (Int8.ofInt i).toInt32.toNatClampNeg = k ∧ ¬ (Int8.ofInt i).toInt32 < 0 ∧ (Int8.ofInt i).toInt32 < z) (hl : A[n]? = some (.val (.int v))) (hv : nar .char v = v) (q4 : p0 + 1 + 2 + 2 + 1 = p4)
    (go : ∀ T' h' L', o_PS p l e R s m args below meth c cells slots Z a z n0 hA T' h' L' (L.set k v) → o_Go p.tables e below P T' (mkF m p4 A (.ref a :: rest))) : o_Go p.tables e below P T (mkF m p0 A (.ref a :: rest)) :=
  o_p4 S hx hZ ge q.1 q.2 hv q4 (fun _ kk => XS.dup S.1.here hx rfl (hb hby d0) rfl rfl (XS.bipush S.1.here hx rfl (hb hby d1) (XS.iload S.1.here hx rfl (hb hby d2) hl kk))) (hb hby d3) go
theorem o_pM (S : o_PS p l e R s m args below meth c cells slots Z a z n0 hA T h locs L) (hx : p.tables.exec = Jvm.exec) (hZ : Z.Warmed39 s.vm) (hby : c.code = bytes) (ge : n0 ≤ a) {i : Int} {n k : Nat} {v : Int32} {p0 p4 : Nat} (d0 : decode bytes p0 = .ok (.dup, 1)) (d1 : decode bytes (p0 + 1) = .ok (.iconst i, 1)) (d2 : decode bytes (p0 + 1 + 1) = .ok (.iload n, 2)) (d3 : decode bytes (p0 + 1 + 1 + 2) = .ok (.castore, 1))
    (q : (Int32.ofInt i).toNatClampNeg = k ∧ ¬ Int32.ofInt i < 0 ∧ Int32.ofInt i < z) (hl : A[n]? = some (.val (.int v))) (hv : nar .char v = v) (q4 : p0 + 1 + 1 + 2 + 1 = p4)
    (go : ∀ T' h' L', o_PS p l e R s m args below meth c cells slots Z a z n0 hA T' h' L' (L.set k v) → o_Go p.tables e below P T' (mkF m p4 A (.ref a :: rest))) : o_Go p.tables e below P T (mkF m p0 A (.ref a :: rest)) :=
  o_p4 S hx hZ ge q.1 q.2 hv q4 (fun _ kk => XS.dup S.1.here hx rfl (hb hby d0) rfl rfl (XS.iconst S.1.here hx rfl (hb hby d1) (XS.iload S.1.here hx rfl (hb hby d2) hl kk))) (hb hby d3) go
end
theorem o_lb62 {units : Array UInt16} (h : utf16ToString? units = some "A line holds an integer from 1 to 1000000 of its variant, not ") : stringBytes units = ((o_T62 : List Int32).map Value.int).toArray := by
  have e := units_of_text h (by decide +kernel)
  have e2 : units = #[65, 32, 108, 105, 110, 101, 32, 104, 111, 108, 100, 115, 32, 97, 110, 32, 105, 110, 116, 101, 103, 101, 114, 32, 102, 114, 111, 109, 32, 49, 32, 116, 111, 32, 49, 48, 48, 48, 48, 48, 48, 32, 111, 102, 32, 105, 116, 115, 32, 118, 97, 114, 105, 97, 110, 116, 44, 32, 110, 111, 116, 32] := by
    apply Array.toList_inj.mp; rw [e]; decide +kernel
  subst e2; decide +kernel
theorem o_lb1 {units : Array UInt16} (h : utf16ToString? units = some ".") : stringBytes units = (([46] : List Int32).map Value.int).toArray := by
  have e := units_of_text h (by decide +kernel)
  have e2 : units = #[46] := by
    apply Array.toList_inj.mp; rw [e]; decide +kernel
  subst e2; decide +kernel
theorem o_lb63 {units : Array UInt16} (h : utf16ToString? units = some "A line holds an integer from 1 to 1000000 of its variant, not .") : stringBytes units = ((o_T62 ++ [46] : List Int32).map Value.int).toArray := by
  have e := units_of_text h (by decide +kernel)
  have e2 : units = #[65, 32, 108, 105, 110, 101, 32, 104, 111, 108, 100, 115, 32, 97, 110, 32, 105, 110, 116, 101, 103, 101, 114, 32, 102, 114, 111, 109, 32, 49, 32, 116, 111, 32, 49, 48, 48, 48, 48, 48, 48, 32, 111, 102, 32, 105, 116, 115, 32, 118, 97, 114, 105, 97, 110, 116, 44, 32, 110, 111, 116, 32, 46] := by
    apply Array.toList_inj.mp; rw [e]; decide +kernel
  subst e2; decide +kernel
theorem o_lb0 {units : Array UInt16} (h : utf16ToString? units = some "") : stringBytes units = (([] : List Int32).map Value.int).toArray := by
  have e := units_of_text h (by decide +kernel)
  have e2 : units = #[] := by
    apply Array.toList_inj.mp; rw [e]; decide +kernel
  subst e2; decide +kernel
theorem o_relist {Z : State} {h : Heap} {a : Addr} {ty : FieldType} {z : Int32} {L L' : List Int32} (V : o_AV Z h a ty z (o_ch (o_ls L))) (e : L = L') : o_AV Z h a ty z (o_ch (o_ls L')) := e ▸ V
abbrev c1' : ByteArray := jdk_42_method_3_code
abbrev c2' : ByteArray := jdk_42_method_149_code
abbrev c4' : ByteArray := prog_5_method_2_code
abbrev c5' : ByteArray := jdk_67_method_1_code
abbrev c6' : ByteArray := jdk_68_method_2_code
abbrev c7' : ByteArray := jdk_67_method_7_code
abbrev c8' : ByteArray := jdk_68_method_22_code
abbrev c9' : ByteArray := jdk_42_method_54_code
abbrev c10' : ByteArray := jdk_42_method_152_code
abbrev c11' : ByteArray := jdk_68_method_9_code
abbrev c12' : ByteArray := jdk_68_method_10_code
abbrev c13' : ByteArray := jdk_48_method_27_code
abbrev c14' : ByteArray := jdk_29_method_65_code
abbrev c15' : ByteArray := jdk_65_method_121_code
abbrev c16' : ByteArray := jdk_29_method_69_code
abbrev c17' : ByteArray := jdk_68_method_73_code
abbrev c18' : ByteArray := jdk_68_method_71_code
abbrev c19' : ByteArray := jdk_42_method_147_code
abbrev c20' : ByteArray := jdk_67_method_42_code
abbrev c21' : ByteArray := jdk_42_method_53_code
abbrev c22' : ByteArray := jdk_42_method_150_code
abbrev c26' : ByteArray := jdk_68_method_68_code
abbrev c27' : ByteArray := jdk_65_method_132_code
abbrev c28' : ByteArray := jdk_65_method_133_code
abbrev c29' : ByteArray := jdk_65_method_131_code
abbrev c30' : ByteArray := prog_5_method_1_code
abbrev c31' : ByteArray := jdk_59_method_5_code
abbrev c32' : ByteArray := jdk_78_method_5_code
abbrev c35' : ByteArray := jdk_42_method_66_code
abbrev c36' : ByteArray := jdk_43_method_13_code
abbrev c37' : ByteArray := jdk_52_method_16_code
abbrev c38' : ByteArray := jdk_52_method_21_code
abbrev c39' : ByteArray := jdk_52_method_15_code
abbrev c40' : ByteArray := jdk_52_method_14_code
abbrev c41' : ByteArray := jdk_52_method_2_code
abbrev c42' : ByteArray := jdk_52_method_3_code
abbrev c43' : ByteArray := jdk_52_method_4_code
abbrev c44' : ByteArray := jdk_52_method_5_code
abbrev c45' : ByteArray := jdk_68_method_11_code
abbrev c46' : ByteArray := jdk_43_method_50_code
abbrev c47' : ByteArray := jdk_52_method_86_code
abbrev c48' : ByteArray := jdk_52_method_94_code
abbrev c49' : ByteArray := jdk_52_method_6_code
abbrev c50' : ByteArray := jdk_42_method_157_code
abbrev c51' : ByteArray := jdk_41_method_13_code
abbrev c52' : ByteArray := jdk_42_method_139_code
abbrev c53' : ByteArray := jdk_43_method_3_code
abbrev c54' : ByteArray := jdk_43_method_46_code
abbrev c55' : ByteArray := jdk_42_method_151_code
abbrev c56' : ByteArray := jdk_52_method_24_code
theorem o_h {Z : State} {a0 : Array Value} {d : Jvm.Cond} (hw : o_T Z a0) (i : Nat) (h : tables_1[i]? = some d) : d.before a0 Z = true := hw _ (List.mem_of_getElem? h)
theorem o_m0 {a : Addr} {l : List Addr} : a ∈ a :: l := List.mem_cons_self
variable {l : Launch} {Z : State} {a0 : Array Value} {h0 : Heap} {n0 : Nat}
abbrev M56' (l : Launch) (Z : State) (r : Room) (A : Array Value) (h0 : Heap) (Q : Option Value → Heap → List Loc → Prop) : Prop := o_M l Z (⟨"java/lang/StringUTF16", "toBytes", "(C)[B"⟩ : MethodName) jdk_52_method_24_code 2 (some (.array .byte)) r A h0 Q
abbrev M55' (l : Launch) (Z : State) (r : Room) (A : Array Value) (h0 : Heap) (Q : Option Value → Heap → List Loc → Prop) : Prop := o_M l Z (⟨"java/lang/String", "<init>", "([BB)V"⟩ : MethodName) jdk_42_method_151_code 3 none r A h0 Q
abbrev M54' (l : Launch) (Z : State) (r : Room) (A : Array Value) (h0 : Heap) (Q : Option Value → Heap → List Loc → Prop) : Prop := o_M l Z (⟨"java/lang/StringLatin1", "toBytes", "(C)[B"⟩ : MethodName) jdk_43_method_46_code 1 (some (.array .byte)) r A h0 Q
abbrev M53' (l : Launch) (Z : State) (r : Room) (A : Array Value) (h0 : Heap) (Q : Option Value → Heap → List Loc → Prop) : Prop := o_M l Z (⟨"java/lang/StringLatin1", "canEncode", "(C)Z"⟩ : MethodName) jdk_43_method_3_code 1 (some .boolean) r A h0 Q
abbrev M52' (l : Launch) (Z : State) (r : Room) (A : Array Value) (h0 : Heap) (Q : Option Value → Heap → List Loc → Prop) : Prop := o_M l Z (⟨"java/lang/String", "valueOf", "(C)Ljava/lang/String;"⟩ : MethodName) jdk_42_method_139_code 1 (some (.object "java/lang/String")) r A h0 Q
abbrev M51' (l : Launch) (Z : State) (r : Room) (A : Array Value) (h0 : Heap) (Q : Option Value → Heap → List Loc → Prop) : Prop := o_M l Z (⟨"jdk/internal/util/Preconditions", "checkFromIndexSize", "(IIILjava/util/function/BiFunction;)I"⟩ : MethodName) jdk_41_method_13_code 4 (some .int) r A h0 Q
abbrev M50' (l : Launch) (Z : State) (r : Room) (A : Array Value) (h0 : Heap) (Q : Option Value → Heap → List Loc → Prop) : Prop := o_M l Z (⟨"java/lang/String", "checkBoundsOffCount", "(III)I"⟩ : MethodName) jdk_42_method_157_code 3 (some .int) r A h0 Q
abbrev M49' (l : Launch) (Z : State) (r : Room) (A : Array Value) (h0 : Heap) (Q : Option Value → Heap → List Loc → Prop) : Prop := o_M l Z (⟨"java/lang/StringUTF16", "length", "([B)I"⟩ : MethodName) jdk_52_method_6_code 1 (some .int) r A h0 Q
abbrev M48' (l : Launch) (Z : State) (r : Room) (A : Array Value) (h0 : Heap) (Q : Option Value → Heap → List Loc → Prop) : Prop := o_M l Z (⟨"java/lang/StringUTF16", "checkBoundsOffCount", "(II[B)V"⟩ : MethodName) jdk_52_method_94_code 3 none r A h0 Q
abbrev M47' (l : Launch) (Z : State) (r : Room) (A : Array Value) (h0 : Heap) (Q : Option Value → Heap → List Loc → Prop) : Prop := o_M l Z (⟨"java/lang/StringUTF16", "inflate", "([BI[BII)V"⟩ : MethodName) jdk_52_method_86_code 6 none r A h0 Q
abbrev M46' (l : Launch) (Z : State) (r : Room) (A : Array Value) (h0 : Heap) (Q : Option Value → Heap → List Loc → Prop) : Prop := o_M l Z (⟨"java/lang/StringLatin1", "inflate", "([BI[BII)V"⟩ : MethodName) jdk_43_method_50_code 5 none r A h0 Q
abbrev M45' (l : Launch) (Z : State) (r : Room) (A : Array Value) (h0 : Heap) (Q : Option Value → Heap → List Loc → Prop) : Prop := o_M l Z (⟨"java/lang/AbstractStringBuilder", "inflate", "()V"⟩ : MethodName) jdk_68_method_11_code 2 none r A h0 Q
abbrev M44' (l : Launch) (Z : State) (r : Room) (A : Array Value) (h0 : Heap) (Q : Option Value → Heap → List Loc → Prop) : Prop := o_M l Z (⟨"java/lang/StringUTF16", "getChar", "([BI)C"⟩ : MethodName) jdk_52_method_5_code 2 (some .char) r A h0 Q
abbrev M43' (l : Launch) (Z : State) (r : Room) (A : Array Value) (h0 : Heap) (Q : Option Value → Heap → List Loc → Prop) : Prop := o_M l Z (⟨"java/lang/StringUTF16", "putChar", "([BII)V"⟩ : MethodName) jdk_52_method_4_code 3 none r A h0 Q
abbrev M42' (l : Launch) (Z : State) (r : Room) (A : Array Value) (h0 : Heap) (Q : Option Value → Heap → List Loc → Prop) : Prop := o_M l Z (⟨"java/lang/StringUTF16", "newBytesLength", "(I)I"⟩ : MethodName) jdk_52_method_3_code 1 (some .int) r A h0 Q
abbrev M41' (l : Launch) (Z : State) (r : Room) (A : Array Value) (h0 : Heap) (Q : Option Value → Heap → List Loc → Prop) : Prop := o_M l Z (⟨"java/lang/StringUTF16", "newBytesFor", "(I)[B"⟩ : MethodName) jdk_52_method_2_code 1 (some (.array .byte)) r A h0 Q
abbrev M40' (l : Launch) (Z : State) (r : Room) (A : Array Value) (h0 : Heap) (Q : Option Value → Heap → List Loc → Prop) : Prop := o_M l Z (⟨"java/lang/StringUTF16", "toBytes", "([CII)[B"⟩ : MethodName) jdk_52_method_14_code 5 (some (.array .byte)) r A h0 Q
abbrev M39' (l : Launch) (Z : State) (r : Room) (A : Array Value) (h0 : Heap) (Q : Option Value → Heap → List Loc → Prop) : Prop := o_M l Z (⟨"java/lang/StringUTF16", "coderFromArrayLen", "([BI)B"⟩ : MethodName) jdk_52_method_15_code 2 (some .byte) r A h0 Q
abbrev M38' (l : Launch) (Z : State) (r : Room) (A : Array Value) (h0 : Heap) (Q : Option Value → Heap → List Loc → Prop) : Prop := o_M l Z (⟨"java/lang/StringUTF16", "compress", "([CI[BII)I"⟩ : MethodName) jdk_52_method_21_code 7 (some .int) r A h0 Q
abbrev M37' (l : Launch) (Z : State) (r : Room) (A : Array Value) (h0 : Heap) (Q : Option Value → Heap → List Loc → Prop) : Prop := o_M l Z (⟨"java/lang/StringUTF16", "compress", "([CII)[B"⟩ : MethodName) jdk_52_method_16_code 6 (some (.array .byte)) r A h0 Q
abbrev M36' (l : Launch) (Z : State) (r : Room) (A : Array Value) (h0 : Heap) (Q : Option Value → Heap → List Loc → Prop) : Prop := o_M l Z (⟨"java/lang/StringLatin1", "equals", "([B[B)Z"⟩ : MethodName) jdk_43_method_13_code 3 (some .boolean) r A h0 Q
abbrev M35' (l : Launch) (Z : State) (r : Room) (A : Array Value) (h0 : Heap) (Q : Option Value → Heap → List Loc → Prop) : Prop := o_M l Z (⟨"java/lang/String", "equals", "(Ljava/lang/Object;)Z"⟩ : MethodName) jdk_42_method_66_code 3 (some .boolean) r A h0 Q
abbrev M34' (l : Launch) (Z : State) (r : Room) (A : Array Value) (h0 : Heap) (Q : Option Value → Heap → List Loc → Prop) : Prop := o_M l Z (⟨"java/lang/Throwable", "getMessage", "()Ljava/lang/String;"⟩ : MethodName) jdk_78_method_6_code 1 (some (.object "java/lang/String")) r A h0 Q
abbrev M33' (l : Launch) (Z : State) (r : Room) (A : Array Value) (h0 : Heap) (Q : Option Value → Heap → List Loc → Prop) : Prop := o_M l Z (⟨"com/example/orderly_storefront/orderlystorefront/cart/CartException", "reason", "()Lcom/example/orderly_storefront/orderlystorefront/cart/CartException$Reason;"⟩ : MethodName) prog_5_method_3_code 1 (some (.object "com/example/orderly_storefront/orderlystorefront/cart/CartException$Reason")) r A h0 Q
abbrev M32' (l : Launch) (Z : State) (r : Room) (A : Array Value) (h0 : Heap) (Q : Option Value → Heap → List Loc → Prop) : Prop := o_M l Z (⟨"java/lang/Throwable", "<init>", "(Ljava/lang/String;Ljava/lang/Throwable;ZZ)V"⟩ : MethodName) jdk_78_method_5_code 5 none r A h0 Q
abbrev M31' (l : Launch) (Z : State) (r : Room) (A : Array Value) (h0 : Heap) (Q : Option Value → Heap → List Loc → Prop) : Prop := o_M l Z (⟨"java/lang/Exception", "<init>", "(Ljava/lang/String;Ljava/lang/Throwable;ZZ)V"⟩ : MethodName) jdk_59_method_5_code 5 none r A h0 Q
abbrev M30' (l : Launch) (Z : State) (r : Room) (A : Array Value) (h0 : Heap) (Q : Option Value → Heap → List Loc → Prop) : Prop := o_M l Z (⟨"com/example/orderly_storefront/orderlystorefront/cart/CartException", "<init>", "(Lcom/example/orderly_storefront/orderlystorefront/cart/CartException$Reason;Ljava/lang/String;)V"⟩ : MethodName) prog_5_method_1_code 3 none r A h0 Q
abbrev M29' (l : Launch) (Z : State) (r : Room) (A : Array Value) (h0 : Heap) (Q : Option Value → Heap → List Loc → Prop) : Prop := o_M l Z (⟨"java/util/Arrays", "checkLength", "(II)V"⟩ : MethodName) jdk_65_method_131_code 2 none r A h0 Q
abbrev M28' (l : Launch) (Z : State) (r : Room) (A : Array Value) (h0 : Heap) (Q : Option Value → Heap → List Loc → Prop) : Prop := o_M l Z (⟨"java/util/Arrays", "copyOfRangeByte", "([BII)[B"⟩ : MethodName) jdk_65_method_133_code 5 (some (.array .byte)) r A h0 Q
abbrev M27' (l : Launch) (Z : State) (r : Room) (A : Array Value) (h0 : Heap) (Q : Option Value → Heap → List Loc → Prop) : Prop := o_M l Z (⟨"java/util/Arrays", "copyOfRange", "([BII)[B"⟩ : MethodName) jdk_65_method_132_code 3 (some (.array .byte)) r A h0 Q
abbrev M26' (l : Launch) (Z : State) (r : Room) (A : Array Value) (h0 : Heap) (Q : Option Value → Heap → List Loc → Prop) : Prop := o_M l Z (⟨"java/lang/AbstractStringBuilder", "isLatin1", "()Z"⟩ : MethodName) jdk_68_method_68_code 1 (some .boolean) r A h0 Q
abbrev M25' (l : Launch) (Z : State) (r : Room) (A : Array Value) (h0 : Heap) (Q : Option Value → Heap → List Loc → Prop) : Prop := o_M l Z (⟨"java/lang/AbstractStringBuilder", "length", "()I"⟩ : MethodName) jdk_68_method_6_code 1 (some .int) r A h0 Q
abbrev M24' (l : Launch) (Z : State) (r : Room) (A : Array Value) (h0 : Heap) (Q : Option Value → Heap → List Loc → Prop) : Prop := o_M l Z (⟨"java/lang/StringBuilder", "length", "()I"⟩ : MethodName) jdk_67_method_93_code 1 (some .int) r A h0 Q
abbrev M23' (l : Launch) (Z : State) (r : Room) (A : Array Value) (h0 : Heap) (Q : Option Value → Heap → List Loc → Prop) : Prop := o_M l Z (⟨"java/lang/AbstractStringBuilder", "getValue", "()[B"⟩ : MethodName) jdk_68_method_64_code 1 (some (.array .byte)) r A h0 Q
abbrev M22' (l : Launch) (Z : State) (r : Room) (A : Array Value) (h0 : Heap) (Q : Option Value → Heap → List Loc → Prop) : Prop := o_M l Z (⟨"java/lang/String", "<init>", "(Ljava/lang/AbstractStringBuilder;Ljava/lang/Void;)V"⟩ : MethodName) jdk_42_method_150_code 5 none r A h0 Q
abbrev M21' (l : Launch) (Z : State) (r : Room) (A : Array Value) (h0 : Heap) (Q : Option Value → Heap → List Loc → Prop) : Prop := o_M l Z (⟨"java/lang/String", "<init>", "(Ljava/lang/StringBuilder;)V"⟩ : MethodName) jdk_42_method_53_code 2 none r A h0 Q
abbrev M20' (l : Launch) (Z : State) (r : Room) (A : Array Value) (h0 : Heap) (Q : Option Value → Heap → List Loc → Prop) : Prop := o_M l Z (⟨"java/lang/StringBuilder", "toString", "()Ljava/lang/String;"⟩ : MethodName) jdk_67_method_42_code 1 (some (.object "java/lang/String")) r A h0 Q
abbrev M19' (l : Launch) (Z : State) (r : Room) (A : Array Value) (h0 : Heap) (Q : Option Value → Heap → List Loc → Prop) : Prop := o_M l Z (⟨"java/lang/String", "getBytes", "([BIB)V"⟩ : MethodName) jdk_42_method_147_code 4 none r A h0 Q
abbrev M18' (l : Launch) (Z : State) (r : Room) (A : Array Value) (h0 : Heap) (Q : Option Value → Heap → List Loc → Prop) : Prop := o_M l Z (⟨"java/lang/AbstractStringBuilder", "inflateIfNeededFor", "(Ljava/lang/String;)V"⟩ : MethodName) jdk_68_method_71_code 2 none r A h0 Q
abbrev M17' (l : Launch) (Z : State) (r : Room) (A : Array Value) (h0 : Heap) (Q : Option Value → Heap → List Loc → Prop) : Prop := o_M l Z (⟨"java/lang/AbstractStringBuilder", "putStringAt", "(ILjava/lang/String;)V"⟩ : MethodName) jdk_68_method_73_code 3 none r A h0 Q
abbrev M16' (l : Launch) (Z : State) (r : Room) (A : Array Value) (h0 : Heap) (Q : Option Value → Heap → List Loc → Prop) : Prop := o_M l Z (⟨"java/lang/Math", "min", "(II)I"⟩ : MethodName) jdk_29_method_69_code 2 (some .int) r A h0 Q
abbrev M15' (l : Launch) (Z : State) (r : Room) (A : Array Value) (h0 : Heap) (Q : Option Value → Heap → List Loc → Prop) : Prop := o_M l Z (⟨"java/util/Arrays", "copyOf", "([BI)[B"⟩ : MethodName) jdk_65_method_121_code 3 (some (.array .byte)) r A h0 Q
abbrev M14' (l : Launch) (Z : State) (r : Room) (A : Array Value) (h0 : Heap) (Q : Option Value → Heap → List Loc → Prop) : Prop := o_M l Z (⟨"java/lang/Math", "max", "(II)I"⟩ : MethodName) jdk_29_method_65_code 2 (some .int) r A h0 Q
abbrev M13' (l : Launch) (Z : State) (r : Room) (A : Array Value) (h0 : Heap) (Q : Option Value → Heap → List Loc → Prop) : Prop := o_M l Z (⟨"jdk/internal/util/ArraysSupport", "newLength", "(III)I"⟩ : MethodName) jdk_48_method_27_code 4 (some .int) r A h0 Q
abbrev M12' (l : Launch) (Z : State) (r : Room) (A : Array Value) (h0 : Heap) (Q : Option Value → Heap → List Loc → Prop) : Prop := o_M l Z (⟨"java/lang/AbstractStringBuilder", "newCapacity", "(I)I"⟩ : MethodName) jdk_68_method_10_code 6 (some .int) r A h0 Q
abbrev M11' (l : Launch) (Z : State) (r : Room) (A : Array Value) (h0 : Heap) (Q : Option Value → Heap → List Loc → Prop) : Prop := o_M l Z (⟨"java/lang/AbstractStringBuilder", "ensureCapacityInternal", "(I)V"⟩ : MethodName) jdk_68_method_9_code 3 none r A h0 Q
abbrev M10' (l : Launch) (Z : State) (r : Room) (A : Array Value) (h0 : Heap) (Q : Option Value → Heap → List Loc → Prop) : Prop := o_M l Z (⟨"java/lang/String", "coder", "()B"⟩ : MethodName) jdk_42_method_152_code 1 (some .byte) r A h0 Q
abbrev M9' (l : Launch) (Z : State) (r : Room) (A : Array Value) (h0 : Heap) (Q : Option Value → Heap → List Loc → Prop) : Prop := o_M l Z (⟨"java/lang/String", "length", "()I"⟩ : MethodName) jdk_42_method_54_code 1 (some .int) r A h0 Q
abbrev M8' (l : Launch) (Z : State) (r : Room) (A : Array Value) (h0 : Heap) (Q : Option Value → Heap → List Loc → Prop) : Prop := o_M l Z (⟨"java/lang/AbstractStringBuilder", "append", "(Ljava/lang/String;)Ljava/lang/AbstractStringBuilder;"⟩ : MethodName) jdk_68_method_22_code 3 (some (.object "java/lang/AbstractStringBuilder")) r A h0 Q
abbrev M7' (l : Launch) (Z : State) (r : Room) (A : Array Value) (h0 : Heap) (Q : Option Value → Heap → List Loc → Prop) : Prop := o_M l Z (⟨"java/lang/StringBuilder", "append", "(Ljava/lang/String;)Ljava/lang/StringBuilder;"⟩ : MethodName) jdk_67_method_7_code 2 (some (.object "java/lang/StringBuilder")) r A h0 Q
abbrev M6' (l : Launch) (Z : State) (r : Room) (A : Array Value) (h0 : Heap) (Q : Option Value → Heap → List Loc → Prop) : Prop := o_M l Z (⟨"java/lang/AbstractStringBuilder", "<init>", "(I)V"⟩ : MethodName) jdk_68_method_2_code 2 none r A h0 Q
abbrev M5' (l : Launch) (Z : State) (r : Room) (A : Array Value) (h0 : Heap) (Q : Option Value → Heap → List Loc → Prop) : Prop := o_M l Z (⟨"java/lang/StringBuilder", "<init>", "()V"⟩ : MethodName) jdk_67_method_1_code 1 none r A h0 Q
abbrev M2' (l : Launch) (Z : State) (r : Room) (A : Array Value) (h0 : Heap) (Q : Option Value → Heap → List Loc → Prop) : Prop := o_M l Z (⟨"java/lang/String", "<init>", "([CIILjava/lang/Void;)V"⟩ : MethodName) jdk_42_method_149_code 6 none r A h0 Q
abbrev M1' (l : Launch) (Z : State) (r : Room) (A : Array Value) (h0 : Heap) (Q : Option Value → Heap → List Loc → Prop) : Prop := o_M l Z (⟨"java/lang/String", "<init>", "([C)V"⟩ : MethodName) jdk_42_method_3_code 2 none r A h0 Q
theorem d43_0 : decode c43' 0 = .ok (.getstatic 44, 3) := by decide +kernel
theorem d43_3 : decode c43' 3 = .ok (.ifCond .ne 25, 3) := by decide +kernel
theorem d43_28 : decode c43' 28 = .ok (.iload_n 1, 1) := by decide +kernel
theorem d43_29 : decode c43' 29 = .ok (.iconst 1, 1) := by decide +kernel
theorem d43_30 : decode c43' 30 = .ok (.ishl, 1) := by decide +kernel
theorem d43_31 : decode c43' 31 = .ok (.istore_n 1, 1) := by decide +kernel
theorem d43_32 : decode c43' 32 = .ok (.aload_n 0, 1) := by decide +kernel
theorem d43_33 : decode c43' 33 = .ok (.iload_n 1, 1) := by decide +kernel
theorem d43_34 : decode c43' 34 = .ok (.iinc 1 1, 3) := by decide +kernel
theorem d43_37 : decode c43' 37 = .ok (.iload_n 2, 1) := by decide +kernel
theorem d43_38 : decode c43' 38 = .ok (.getstatic 59, 3) := by decide +kernel
theorem d43_41 : decode c43' 41 = .ok (.ishr, 1) := by decide +kernel
theorem d43_42 : decode c43' 42 = .ok (.i2b, 1) := by decide +kernel
theorem d43_43 : decode c43' 43 = .ok (.bastore, 1) := by decide +kernel
theorem d43_44 : decode c43' 44 = .ok (.aload_n 0, 1) := by decide +kernel
theorem d43_45 : decode c43' 45 = .ok (.iload_n 1, 1) := by decide +kernel
theorem d43_46 : decode c43' 46 = .ok (.iload_n 2, 1) := by decide +kernel
theorem d43_47 : decode c43' 47 = .ok (.getstatic 63, 3) := by decide +kernel
theorem d43_50 : decode c43' 50 = .ok (.ishr, 1) := by decide +kernel
theorem d43_51 : decode c43' 51 = .ok (.i2b, 1) := by decide +kernel
theorem d43_52 : decode c43' 52 = .ok (.bastore, 1) := by decide +kernel
theorem d43_53 : decode c43' 53 = .ok (.return_, 1) := by decide +kernel
theorem o_rm43 (hw : o_T Z a0) (Z0 : n0 ≤ h0.size) (a_1 : Addr) (p_2 p_3 : Int32) (f : Nat → Int32) (z : Int32) (j : Nat) (j0 : o_G Z h0) (j1 : o_AV Z h0 a_1 .byte z (o_by f)) (hj : p_2 = Int32.ofNat j) (hgb : 2 * j + 1 < (z).toNatClampNeg) (gw_a_1 : n0 ≤ a_1) :
    M43' l Z (o_rm 0 0 0 0) #[(.ref a_1), (.int p_2), (.int p_3)] h0 (fun v h L => v = none ∧ Fr n0 L ∧ Keep h0 h [a_1] ∧ o_AV Z h a_1 .byte z (o_by (o_pc f j p_3))) := by
  refine o_start (plainFor_of_name o_pn0) (L0 := #[.val (.ref a_1), .val (.int p_2), .val (.int p_3)]) (fun _ => rfl) fun p e s m below meth c s₁ hx hby hml hown hnm hret hZ X0 e0 B H => ?_
  have N0 := Fr.nil n0
  have z0 : n0 ≤ h0.size := Z0
  have z1 := o_lt j1.lt
  have K0 : Keep h0 h0 [a_1] := Keep.refl h0 _
  have hzz := o_zn (z := z)
  refine o_gs X0 B H (o_h hw 234 rfl) e0 j0.2.1 d43_0 fun T2 X2 e2 => ?_
  have hc3 : ¬ ((1 : Int32) = 0) := by decide
  refine xy X2 B 3 28 rfl d43_3 (XT.i0_ne_t hc3) (by decide) ?_
  refine xi X2 B d43_28 rfl ?_
  refine xc X2 B d43_29 1 rfl ?_
  refine xshl X2 B d43_30 _ rfl ?_
  refine xs X2 B d43_31 (l' := #[.val (.ref a_1), .val (.int (p_2 <<< ((1 : Int32) &&& 31))), .val (.int p_3)]) rfl ?_
  rw [o_shl1 hj]
  show o_Go _ _ _ _ T2 (mkF m 32 #[.val (.ref a_1), .val (.int (Int32.ofNat (2 * j))), .val (.int p_3)] [])
  refine xa X2 B d43_32 rfl rfl ?_
  refine xi X2 B d43_33 rfl ?_
  refine o_go (fun _ k => XS.iinc X2.here hx rfl (hb hby d43_34) rfl (l' := #[.val (.ref a_1), .val (.int ((Int32.ofNat (2 * j)) + (1 : Int32))), .val (.int p_3)]) rfl k) ?_
  show o_Go _ _ _ _ T2 (mkF m 37 #[.val (.ref a_1), .val (.int ((Int32.ofNat (2 * j)) + (1 : Int32))), .val (.int p_3)] [(.int (Int32.ofNat (2 * j))), (.ref a_1)])
  rw [o_inc]
  show o_Go _ _ _ _ T2 (mkF m 37 #[.val (.ref a_1), .val (.int (Int32.ofNat ((2 * j) + 1))), .val (.int p_3)] [(.int (Int32.ofNat (2 * j))), (.ref a_1)])
  refine xi X2 B d43_37 rfl ?_
  refine o_gs X2 B H (o_h hw 235 rfl) e2 j0.2.2.1 d43_38 fun T4 X4 e4 => ?_
  refine xshr X4 B d43_41 _ rfl ?_
  refine o_go (fun _ k => XS.i2b X4.here hx rfl (hb hby d43_42) rfl k) ?_
  show o_Go _ _ _ _ T4 (mkF m 43 #[.val (.ref a_1), .val (.int (Int32.ofNat ((2 * j) + 1))), .val (.int p_3)] [(.int ((p_3 >>> ((0 : Int32) &&& 31)).toInt8.toInt32)), (.int (Int32.ofNat (2 * j))), (.ref a_1)])
  obtain ⟨q5, c5, R5, s5, t5⟩ := id j1
  have hin5 : ¬ ((Int32.ofNat (2 * j)) < 0 ∨ c5.slots.size ≤ ((Int32.ofNat (2 * j))).toNatClampNeg) := inb_of s5 (o_ixb (z := z) (n := (z).toNatClampNeg) (by omega) rfl)
  obtain ⟨T6, h6, X6, e6, W6, st6⟩ := stB X4 hx hZ e4 R5 (j := (Int32.ofNat (2 * j))) hin5 (g := (mkF m 43 #[.val (.ref a_1), .val (.int (Int32.ofNat ((2 * j) + 1))), .val (.int p_3)] [(.int ((p_3 >>> ((0 : Int32) &&& 31)).toInt8.toInt32)), (.int (Int32.ofNat (2 * j))), (.ref a_1)])) rfl rfl (hb hby d43_43)
  have V6 : o_AV Z h6 a_1 .byte z (o_by (o_ui f (2 * j) (p_3 >>> ((0 : Int32) &&& 31)))) := o_AV.congr (o_AV.set (k := (2 * j)) j1 W6 (o_tn (by omega))) fun i _ => o_bset _ _ _ i
  have z7 := W6.size
  have K6 := K0.wr W6 (Or.inl o_m0)
  have N6 := Fr.snoc X6 N0 (by omega : n0 ≤ a_1)
  refine o_go st6 ?_
  refine xa X6 B d43_44 rfl rfl ?_
  refine xi X6 B d43_45 rfl ?_
  refine xi X6 B d43_46 rfl ?_
  have f8 := (j0.wr W6)
  refine o_gs X6 B H (o_h hw 236 rfl) e6 f8.2.2.2.1 d43_47 fun T9 X9 e9 => ?_
  refine xshr X9 B d43_50 _ rfl ?_
  refine o_go (fun _ k => XS.i2b X9.here hx rfl (hb hby d43_51) rfl k) ?_
  show o_Go _ _ _ _ T9 (mkF m 52 #[.val (.ref a_1), .val (.int (Int32.ofNat ((2 * j) + 1))), .val (.int p_3)] [(.int ((p_3 >>> ((8 : Int32) &&& 31)).toInt8.toInt32)), (.int (Int32.ofNat ((2 * j) + 1))), (.ref a_1)])
  obtain ⟨q10, c10, R10, s10, t10⟩ := id V6
  have hin10 : ¬ ((Int32.ofNat ((2 * j) + 1)) < 0 ∨ c10.slots.size ≤ ((Int32.ofNat ((2 * j) + 1))).toNatClampNeg) := inb_of s10 (o_ixb (z := z) (n := (z).toNatClampNeg) (by omega) rfl)
  obtain ⟨T11, h11, X11, e11, W11, st11⟩ := stB X9 hx hZ e9 R10 (j := (Int32.ofNat ((2 * j) + 1))) hin10 (g := (mkF m 52 #[.val (.ref a_1), .val (.int (Int32.ofNat ((2 * j) + 1))), .val (.int p_3)] [(.int ((p_3 >>> ((8 : Int32) &&& 31)).toInt8.toInt32)), (.int (Int32.ofNat ((2 * j) + 1))), (.ref a_1)])) rfl rfl (hb hby d43_52)
  have V11 : o_AV Z h11 a_1 .byte z (o_by (o_ui (o_ui f (2 * j) (p_3 >>> ((0 : Int32) &&& 31))) ((2 * j) + 1) (p_3 >>> ((8 : Int32) &&& 31)))) := o_AV.congr (o_AV.set (k := ((2 * j) + 1)) V6 W11 (o_tn (by omega))) fun i _ => o_bset _ _ _ i
  have z12 := W11.size
  have K11 := K6.wr W11 (Or.inl o_m0)
  have N11 := Fr.snoc X11 N6 (by omega : n0 ≤ a_1)
  refine o_go st11 ?_
  exact o_retV X11 B hret d43_53 (by decide) e11 ⟨rfl, N11, K11, V11⟩
theorem d44_0 : decode c44' 0 = .ok (.getstatic 44, 3) := by decide +kernel
theorem d44_3 : decode c44' 3 = .ok (.ifCond .ne 25, 3) := by decide +kernel
theorem d44_28 : decode c44' 28 = .ok (.iload_n 1, 1) := by decide +kernel
theorem d44_29 : decode c44' 29 = .ok (.iconst 1, 1) := by decide +kernel
theorem d44_30 : decode c44' 30 = .ok (.ishl, 1) := by decide +kernel
theorem d44_31 : decode c44' 31 = .ok (.istore_n 1, 1) := by decide +kernel
theorem d44_32 : decode c44' 32 = .ok (.aload_n 0, 1) := by decide +kernel
theorem d44_33 : decode c44' 33 = .ok (.iload_n 1, 1) := by decide +kernel
theorem d44_34 : decode c44' 34 = .ok (.iinc 1 1, 3) := by decide +kernel
theorem d44_37 : decode c44' 37 = .ok (.baload, 1) := by decide +kernel
theorem d44_38 : decode c44' 38 = .ok (.sipush 255, 3) := by decide +kernel
theorem d44_41 : decode c44' 41 = .ok (.iand, 1) := by decide +kernel
theorem d44_42 : decode c44' 42 = .ok (.getstatic 59, 3) := by decide +kernel
theorem d44_45 : decode c44' 45 = .ok (.ishl, 1) := by decide +kernel
theorem d44_46 : decode c44' 46 = .ok (.aload_n 0, 1) := by decide +kernel
theorem d44_47 : decode c44' 47 = .ok (.iload_n 1, 1) := by decide +kernel
theorem d44_48 : decode c44' 48 = .ok (.baload, 1) := by decide +kernel
theorem d44_49 : decode c44' 49 = .ok (.sipush 255, 3) := by decide +kernel
theorem d44_52 : decode c44' 52 = .ok (.iand, 1) := by decide +kernel
theorem d44_53 : decode c44' 53 = .ok (.getstatic 63, 3) := by decide +kernel
theorem d44_56 : decode c44' 56 = .ok (.ishl, 1) := by decide +kernel
theorem d44_57 : decode c44' 57 = .ok (.ior, 1) := by decide +kernel
theorem d44_58 : decode c44' 58 = .ok (.i2c, 1) := by decide +kernel
theorem d44_59 : decode c44' 59 = .ok (.ireturn, 1) := by decide +kernel
theorem o_rm44 (hw : o_T Z a0) (Z0 : n0 ≤ h0.size) (a_1 : Addr) (p_2 : Int32) (f : Nat → Int32) (z : Int32) (j : Nat) (j0 : o_G Z h0) (j1 : o_AV Z h0 a_1 .byte z (o_by f)) (hj : p_2 = Int32.ofNat j) (hgb : 2 * j + 1 < (z).toNatClampNeg) :
    M44' l Z (o_rm 0 0 0 0) #[(.ref a_1), (.int p_2)] h0 (fun v h L => v = some (.int (o_gc f j)) ∧ Fr n0 L ∧ h = h0) := by
  refine o_start (plainFor_of_name o_pn0) (L0 := #[.val (.ref a_1), .val (.int p_2)]) (fun _ => rfl) fun p e s m below meth c s₁ hx hby hml hown hnm hret hZ X0 e0 B H => ?_
  have N0 := Fr.nil n0
  have z0 : n0 ≤ h0.size := Z0
  have z1 := o_lt j1.lt
  have hzz := o_zn (z := z)
  refine o_gs X0 B H (o_h hw 234 rfl) e0 j0.2.1 d44_0 fun T2 X2 e2 => ?_
  have hc3 : ¬ ((1 : Int32) = 0) := by decide
  refine xy X2 B 3 28 rfl d44_3 (XT.i0_ne_t hc3) (by decide) ?_
  refine xi X2 B d44_28 rfl ?_
  refine xc X2 B d44_29 1 rfl ?_
  refine xshl X2 B d44_30 _ rfl ?_
  refine xs X2 B d44_31 (l' := #[.val (.ref a_1), .val (.int (p_2 <<< ((1 : Int32) &&& 31)))]) rfl ?_
  rw [o_shl1 hj]
  show o_Go _ _ _ _ T2 (mkF m 32 #[.val (.ref a_1), .val (.int (Int32.ofNat (2 * j)))] [])
  refine xa X2 B d44_32 rfl rfl ?_
  refine xi X2 B d44_33 rfl ?_
  refine o_go (fun _ k => XS.iinc X2.here hx rfl (hb hby d44_34) rfl (l' := #[.val (.ref a_1), .val (.int ((Int32.ofNat (2 * j)) + (1 : Int32)))]) rfl k) ?_
  show o_Go _ _ _ _ T2 (mkF m 37 #[.val (.ref a_1), .val (.int ((Int32.ofNat (2 * j)) + (1 : Int32)))] [(.int (Int32.ofNat (2 * j))), (.ref a_1)])
  rw [o_inc]
  show o_Go _ _ _ _ T2 (mkF m 37 #[.val (.ref a_1), .val (.int (Int32.ofNat ((2 * j) + 1)))] [(.int (Int32.ofNat (2 * j))), (.ref a_1)])
  obtain ⟨q4, c4, R4, s4, t4⟩ := id j1
  have hin4 : ¬ ((Int32.ofNat (2 * j)) < 0 ∨ c4.slots.size ≤ ((Int32.ofNat (2 * j))).toNatClampNeg) := inb_of s4 (o_ixb (z := z) (n := (z).toNatClampNeg) (by omega) rfl)
  have u4 : c4.slots[((Int32.ofNat (2 * j))).toNatClampNeg]? = some (.int ((f (2 * j)).toInt8.toInt32)) := o_at (k := (2 * j)) t4 s4 hin4 (o_tn (by omega)) (rfl)
  refine o_go (fun _ k => X2.baloadBytes hx (j := (Int32.ofNat (2 * j))) (v := (.int ((f (2 * j)).toInt8.toInt32))) (by rw [e2]; exact R4.1) (State.isArrayOf_alike hZ.alike R4.2.1) R4.2.2 hin4 u4 (g := (mkF m 37 #[.val (.ref a_1), .val (.int (Int32.ofNat ((2 * j) + 1)))] [(.int (Int32.ofNat (2 * j))), (.ref a_1)])) rfl rfl (hb hby d44_37) _ k) ?_
  show o_Go _ _ _ _ T2 (mkF m 38 #[.val (.ref a_1), .val (.int (Int32.ofNat ((2 * j) + 1)))] [(.int ((f (2 * j)).toInt8.toInt32))])
  refine xh X2 B d44_38 255 rfl ?_
  refine xand X2 B d44_41 _ rfl ?_
  refine o_gs X2 B H (o_h hw 235 rfl) e2 j0.2.2.1 d44_42 fun T5 X5 e5 => ?_
  refine xshl X5 B d44_45 _ rfl ?_
  refine xa X5 B d44_46 rfl rfl ?_
  refine xi X5 B d44_47 rfl ?_
  obtain ⟨q6, c6, R6, s6, t6⟩ := id j1
  have hin6 : ¬ ((Int32.ofNat ((2 * j) + 1)) < 0 ∨ c6.slots.size ≤ ((Int32.ofNat ((2 * j) + 1))).toNatClampNeg) := inb_of s6 (o_ixb (z := z) (n := (z).toNatClampNeg) (by omega) rfl)
  have u6 : c6.slots[((Int32.ofNat ((2 * j) + 1))).toNatClampNeg]? = some (.int ((f ((2 * j) + 1)).toInt8.toInt32)) := o_at (k := ((2 * j) + 1)) t6 s6 hin6 (o_tn (by omega)) (rfl)
  refine o_go (fun _ k => X5.baloadBytes hx (j := (Int32.ofNat ((2 * j) + 1))) (v := (.int ((f ((2 * j) + 1)).toInt8.toInt32))) (by rw [e5]; exact R6.1) (State.isArrayOf_alike hZ.alike R6.2.1) R6.2.2 hin6 u6 (g := (mkF m 48 #[.val (.ref a_1), .val (.int (Int32.ofNat ((2 * j) + 1)))] [(.int (Int32.ofNat ((2 * j) + 1))), (.ref a_1), (.int ((((f (2 * j)).toInt8.toInt32) &&& (255 : Int32)) <<< ((0 : Int32) &&& 31)))])) rfl rfl (hb hby d44_48) _ k) ?_
  show o_Go _ _ _ _ T5 (mkF m 49 #[.val (.ref a_1), .val (.int (Int32.ofNat ((2 * j) + 1)))] [(.int ((f ((2 * j) + 1)).toInt8.toInt32)), (.int ((((f (2 * j)).toInt8.toInt32) &&& (255 : Int32)) <<< ((0 : Int32) &&& 31)))])
  refine xh X5 B d44_49 255 rfl ?_
  refine xand X5 B d44_52 _ rfl ?_
  refine o_gs X5 B H (o_h hw 236 rfl) e5 j0.2.2.2.1 d44_53 fun T7 X7 e7 => ?_
  refine xshl X7 B d44_56 _ rfl ?_
  refine o_go (fun _ k => XS.ior X7.here hx rfl (hb hby d44_57) rfl k) ?_
  show o_Go _ _ _ _ T7 (mkF m 58 #[.val (.ref a_1), .val (.int (Int32.ofNat ((2 * j) + 1)))] [(.int (((((f (2 * j)).toInt8.toInt32) &&& (255 : Int32)) <<< ((0 : Int32) &&& 31)) ||| ((((f ((2 * j) + 1)).toInt8.toInt32) &&& (255 : Int32)) <<< ((8 : Int32) &&& 31))))])
  refine o_go (fun _ k => XS.i2c X7.here hx rfl (hb hby d44_58) rfl k) ?_
  show o_Go _ _ _ _ T7 (mkF m 59 #[.val (.ref a_1), .val (.int (Int32.ofNat ((2 * j) + 1)))] [(.int ((((((f (2 * j)).toInt8.toInt32) &&& (255 : Int32)) <<< ((0 : Int32) &&& 31)) ||| ((((f ((2 * j) + 1)).toInt8.toInt32) &&& (255 : Int32)) <<< ((8 : Int32) &&& 31))).toUInt32.toUInt16.toUInt32.toInt32))])
  exact o_retI X7 B hret (Or.inr (Or.inr (Or.inr (Or.inl rfl)))) (show narrow .char (.int ((((((f (2 * j)).toInt8.toInt32) &&& (255 : Int32)) <<< ((0 : Int32) &&& 31)) ||| ((((f ((2 * j) + 1)).toInt8.toInt32) &&& (255 : Int32)) <<< ((8 : Int32) &&& 31))).toUInt32.toUInt16.toUInt32.toInt32)) = (.int ((((((f (2 * j)).toInt8.toInt32) &&& (255 : Int32)) <<< ((0 : Int32) &&& 31)) ||| ((((f ((2 * j) + 1)).toInt8.toInt32) &&& (255 : Int32)) <<< ((8 : Int32) &&& 31))).toUInt32.toUInt16.toUInt32.toInt32)) from congrArg Value.int (o_nar_c _)) d44_59 (by decide) e7 ⟨rfl, N0, rfl⟩
theorem d38_0 : decode c38' 0 = .ok (.iconst 0, 1) := by decide +kernel
theorem d38_1 : decode c38' 1 = .ok (.istore 5, 2) := by decide +kernel
theorem d38_3 : decode c38' 3 = .ok (.iload 5, 2) := by decide +kernel
theorem d38_5 : decode c38' 5 = .ok (.iload 4, 2) := by decide +kernel
theorem d38_7 : decode c38' 7 = .ok (.if_icmp .ge 37, 3) := by decide +kernel
theorem d38_10 : decode c38' 10 = .ok (.aload_n 0, 1) := by decide +kernel
theorem d38_11 : decode c38' 11 = .ok (.iload_n 1, 1) := by decide +kernel
theorem d38_12 : decode c38' 12 = .ok (.caload, 1) := by decide +kernel
theorem d38_13 : decode c38' 13 = .ok (.istore 6, 2) := by decide +kernel
theorem d38_15 : decode c38' 15 = .ok (.iload 6, 2) := by decide +kernel
theorem d38_17 : decode c38' 17 = .ok (.sipush 255, 3) := by decide +kernel
theorem d38_20 : decode c38' 20 = .ok (.if_icmp .le 6, 3) := by decide +kernel
theorem d38_23 : decode c38' 23 = .ok (.iload 5, 2) := by decide +kernel
theorem d38_25 : decode c38' 25 = .ok (.ireturn, 1) := by decide +kernel
theorem d38_26 : decode c38' 26 = .ok (.aload_n 2, 1) := by decide +kernel
theorem d38_27 : decode c38' 27 = .ok (.iload_n 3, 1) := by decide +kernel
theorem d38_28 : decode c38' 28 = .ok (.iload 6, 2) := by decide +kernel
theorem d38_30 : decode c38' 30 = .ok (.i2b, 1) := by decide +kernel
theorem d38_31 : decode c38' 31 = .ok (.bastore, 1) := by decide +kernel
theorem d38_32 : decode c38' 32 = .ok (.iinc 1 1, 3) := by decide +kernel
theorem d38_35 : decode c38' 35 = .ok (.iinc 3 1, 3) := by decide +kernel
theorem d38_38 : decode c38' 38 = .ok (.iinc 5 1, 3) := by decide +kernel
theorem d38_41 : decode c38' 41 = .ok (.goto (-38), 3) := by decide +kernel
theorem d38_44 : decode c38' 44 = .ok (.iload 4, 2) := by decide +kernel
theorem d38_46 : decode c38' 46 = .ok (.ireturn, 1) := by decide +kernel
theorem o_t38_0 (z : Int32) (g : Nat → Int32) (kk : Nat) (i3 : Nat) (hle : ∀ i, i < kk → ¬ ((255 : Int32) < (g i))) (hkk : kk ≤ (z).toNatClampNeg) (hwt : kk < (z).toNatClampNeg → (255 : Int32) < (g kk)) (hz0 : ¬ (z < 0)) (hk31 : kk < 2147483648) (hlt3 : i3 < kk) : (Int32.ofNat i3) < z := by
  exact o_ilt (Nat.lt_of_lt_of_le hlt3 hkk)
theorem o_t38_1 (z : Int32) (g : Nat → Int32) (kk : Nat) (i3 : Nat) (hle : ∀ i, i < kk → ¬ ((255 : Int32) < (g i))) (hkk : kk ≤ (z).toNatClampNeg) (hwt : kk < (z).toNatClampNeg → (255 : Int32) < (g kk)) (hz0 : ¬ (z < 0)) (hk31 : kk < 2147483648) (hlt3 : i3 < kk) (hc7 : (Int32.ofNat i3) < z) : ¬ ((255 : Int32) < (g i3)) := by
  exact hle i3 hlt3
theorem o_t38_2 (z : Int32) (g : Nat → Int32) (kk : Nat) (hle : ∀ i, i < kk → ¬ ((255 : Int32) < (g i))) (hkk : kk ≤ (z).toNatClampNeg) (hwt : kk < (z).toNatClampNeg → (255 : Int32) < (g kk)) (hz0 : ¬ (z < 0)) (hk31 : kk < 2147483648) (hc17 : (Int32.ofNat kk) < z) : (255 : Int32) < (g kk) := by
  exact hwt (o_lti hz0 hk31 hc17)
theorem o_rm38 (hw : o_T Z a0) (Z0 : n0 ≤ h0.size) (a_1 a_3 : Addr) (z : Int32) (g f : Nat → Int32) (kk : Nat) (j0 : o_AV Z h0 a_1 .char z (o_ch g)) (j1 : o_AV Z h0 a_3 .byte z (o_by f)) (hle : ∀ i, i < kk → ¬ ((255 : Int32) < (g i))) (hkk : kk ≤ (z).toNatClampNeg) (hwt : kk < (z).toNatClampNeg → (255 : Int32) < (g kk)) (hd_a_1_a_3 : o_df a_1 a_3) (hz0 : ¬ (z < 0)) (hk31 : kk < 2147483648) (gw_a_3 : n0 ≤ a_3) :
    M38' l Z (o_rm 0 0 0 0) #[(.ref a_1), (.int 0), (.ref a_3), (.int 0), (.int z)] h0 (fun v h L => v = some (.int (Int32.ofNat kk)) ∧ Fr n0 L ∧ Keep h0 h [a_3] ∧ o_AV Z h a_3 .byte z (o_by (o_fill g f kk))) := by
  refine o_start (plainFor_of_name o_pn0) (L0 := #[.val (.ref a_1), .val (.int 0), .val (.ref a_3), .val (.int 0), .val (.int z), .unset, .unset]) (fun _ => rfl) fun p e s m below meth c s₁ hx hby hml hown hnm hret hZ X0 e0 B H => ?_
  have N0 := Fr.nil n0
  have z0 : n0 ≤ h0.size := Z0
  have z1 := o_lt j0.lt
  have z2 := o_lt j1.lt
  have K0 : Keep h0 h0 [a_3] := Keep.refl h0 _
  have hzz := o_zn (z := z)
  refine xc X0 B d38_0 0 rfl ?_
  refine xS X0 B d38_1 (l' := #[.val (.ref a_1), .val (.int 0), .val (.ref a_3), .val (.int 0), .val (.int z), .val (.int 0), .unset]) rfl ?_
  refine o_loop (n := kk) (Inv := fun iI TI gI => ∃ (LI : List Loc) (hI : Heap) (s6 : Slot), (s6 = .unset ∨ ∃ v, s6 = .val (.int v)) ∧ Stand p l e (o_rm 0 0 0 0) s m #[(.ref a_1), (.int 0), (.ref a_3), (.int 0), (.int z)] below meth c TI LI 0 0 ∧ TI.heap = hI ∧ Fr n0 LI ∧ Keep h0 hI [a_3] ∧ o_AV Z hI a_1 .char z (o_ch g) ∧ o_AV Z hI a_3 .byte z (o_by (o_fill g f iI)) ∧ gI = mkF m 3 #[.val (.ref a_1), .val (.int (Int32.ofNat iI)), .val (.ref a_3), .val (.int (Int32.ofNat iI)), .val (.int z), .val (.int (Int32.ofNat iI)), s6] []) ?_ ?_ ⟨_, h0, _, Or.inl rfl, X0, e0, N0, K0, j0, (by rw [o_fill_0]; exact j1), rfl⟩
  · rintro i3 T3a g3a hlt3 ⟨L3a, h3a, s63a, hs63a, X3a, e3a, N3a, K3a, f3a_0, f3a_1, rfl⟩ ag3
    have z4 := K3a.1
    have z5 := o_lt f3a_0.lt
    have z6 := o_lt f3a_1.lt
    show o_Go _ _ _ _ T3a (mkF m 3 #[.val (.ref a_1), .val (.int (Int32.ofNat i3)), .val (.ref a_3), .val (.int (Int32.ofNat i3)), .val (.int z), .val (.int (Int32.ofNat i3)), s63a] [])
    refine xI X3a B d38_3 rfl ?_
    refine xI X3a B d38_5 rfl ?_
    have hc7 : (Int32.ofNat i3) < z := o_t38_0 z g kk i3 hle hkk hwt hz0 hk31 hlt3
    refine xm X3a B d38_7 (XT.ii_ge_f hc7) ?_
    refine xa X3a B d38_10 rfl rfl ?_
    refine xi X3a B d38_11 rfl ?_
    obtain ⟨q8, c8, R8, s8, t8⟩ := id f3a_0
    have hin8 : ¬ ((Int32.ofNat i3) < 0 ∨ c8.slots.size ≤ ((Int32.ofNat i3)).toNatClampNeg) := inb_of s8 (o_ixb (z := z) (n := (z).toNatClampNeg) (by omega) rfl)
    have u8 : c8.slots[((Int32.ofNat i3)).toNatClampNeg]? = some (.int (g i3)) := o_at (k := i3) t8 s8 hin8 (o_tn (by omega)) (rfl)
    refine o_go (fun _ k => X3a.caload hx (j := (Int32.ofNat i3)) (v := (.int (g i3))) (by rw [e3a]; exact R8.1) (State.isArrayOf_alike hZ.alike R8.2.1) R8.2.2 hin8 u8 (g := (mkF m 12 #[.val (.ref a_1), .val (.int (Int32.ofNat i3)), .val (.ref a_3), .val (.int (Int32.ofNat i3)), .val (.int z), .val (.int (Int32.ofNat i3)), s63a] [(.int (Int32.ofNat i3)), (.ref a_1)])) rfl rfl (hb hby d38_12) _ k) ?_
    show o_Go _ _ _ _ T3a (mkF m 13 #[.val (.ref a_1), .val (.int (Int32.ofNat i3)), .val (.ref a_3), .val (.int (Int32.ofNat i3)), .val (.int z), .val (.int (Int32.ofNat i3)), s63a] [(.int (g i3))])
    refine xS X3a B d38_13 (l' := #[.val (.ref a_1), .val (.int (Int32.ofNat i3)), .val (.ref a_3), .val (.int (Int32.ofNat i3)), .val (.int z), .val (.int (Int32.ofNat i3)), .val (.int (g i3))]) (by rcases hs63a with rfl | ⟨_, rfl⟩ <;> rfl) ?_
    refine xI X3a B d38_15 rfl ?_
    refine xh X3a B d38_17 255 rfl ?_
    have hc9 : ¬ ((255 : Int32) < (g i3)) := o_t38_1 z g kk i3 hle hkk hwt hz0 hk31 hlt3 hc7
    refine xM X3a B 20 26 rfl d38_20 (XT.ii_le_t hc9) (by decide) ?_
    refine xa X3a B d38_26 rfl rfl ?_
    refine xi X3a B d38_27 rfl ?_
    refine xI X3a B d38_28 rfl ?_
    refine o_go (fun _ k => XS.i2b X3a.here hx rfl (hb hby d38_30) rfl k) ?_
    show o_Go _ _ _ _ T3a (mkF m 31 #[.val (.ref a_1), .val (.int (Int32.ofNat i3)), .val (.ref a_3), .val (.int (Int32.ofNat i3)), .val (.int z), .val (.int (Int32.ofNat i3)), .val (.int (g i3))] [(.int ((g i3).toInt8.toInt32)), (.int (Int32.ofNat i3)), (.ref a_3)])
    obtain ⟨q10, c10, R10, s10, t10⟩ := id f3a_1
    have hin10 : ¬ ((Int32.ofNat i3) < 0 ∨ c10.slots.size ≤ ((Int32.ofNat i3)).toNatClampNeg) := inb_of s10 (o_ixb (z := z) (n := (z).toNatClampNeg) (by omega) rfl)
    obtain ⟨T11, h11, X11, e11, W11, st11⟩ := stB X3a hx hZ e3a R10 (j := (Int32.ofNat i3)) hin10 (g := (mkF m 31 #[.val (.ref a_1), .val (.int (Int32.ofNat i3)), .val (.ref a_3), .val (.int (Int32.ofNat i3)), .val (.int z), .val (.int (Int32.ofNat i3)), .val (.int (g i3))] [(.int ((g i3).toInt8.toInt32)), (.int (Int32.ofNat i3)), (.ref a_3)])) rfl rfl (hb hby d38_31)
    have V11 : o_AV Z h11 a_3 .byte z (o_by (o_ui (o_fill g f i3) i3 (g i3))) := o_AV.congr (o_AV.set (k := i3) f3a_1 W11 (o_tn (by omega))) fun i _ => o_bset _ _ _ i
    have z12 := W11.size
    have K11 := K3a.wr W11 (Or.inl o_m0)
    have N11 := Fr.snoc X11 N3a (by omega : n0 ≤ a_3)
    refine o_go st11 ?_
    refine o_go (fun _ k => XS.iinc X11.here hx rfl (hb hby d38_32) rfl (l' := #[.val (.ref a_1), .val (.int ((Int32.ofNat i3) + (1 : Int32))), .val (.ref a_3), .val (.int (Int32.ofNat i3)), .val (.int z), .val (.int (Int32.ofNat i3)), .val (.int (g i3))]) rfl k) ?_
    show o_Go _ _ _ _ T11 (mkF m 35 #[.val (.ref a_1), .val (.int ((Int32.ofNat i3) + (1 : Int32))), .val (.ref a_3), .val (.int (Int32.ofNat i3)), .val (.int z), .val (.int (Int32.ofNat i3)), .val (.int (g i3))] [])
    rw [o_inc]
    show o_Go _ _ _ _ T11 (mkF m 35 #[.val (.ref a_1), .val (.int (Int32.ofNat (i3 + 1))), .val (.ref a_3), .val (.int (Int32.ofNat i3)), .val (.int z), .val (.int (Int32.ofNat i3)), .val (.int (g i3))] [])
    refine o_go (fun _ k => XS.iinc X11.here hx rfl (hb hby d38_35) rfl (l' := #[.val (.ref a_1), .val (.int (Int32.ofNat (i3 + 1))), .val (.ref a_3), .val (.int ((Int32.ofNat i3) + (1 : Int32))), .val (.int z), .val (.int (Int32.ofNat i3)), .val (.int (g i3))]) rfl k) ?_
    show o_Go _ _ _ _ T11 (mkF m 38 #[.val (.ref a_1), .val (.int (Int32.ofNat (i3 + 1))), .val (.ref a_3), .val (.int ((Int32.ofNat i3) + (1 : Int32))), .val (.int z), .val (.int (Int32.ofNat i3)), .val (.int (g i3))] [])
    rw [o_inc]
    show o_Go _ _ _ _ T11 (mkF m 38 #[.val (.ref a_1), .val (.int (Int32.ofNat (i3 + 1))), .val (.ref a_3), .val (.int (Int32.ofNat (i3 + 1))), .val (.int z), .val (.int (Int32.ofNat i3)), .val (.int (g i3))] [])
    refine o_go (fun _ k => XS.iinc X11.here hx rfl (hb hby d38_38) rfl (l' := #[.val (.ref a_1), .val (.int (Int32.ofNat (i3 + 1))), .val (.ref a_3), .val (.int (Int32.ofNat (i3 + 1))), .val (.int z), .val (.int ((Int32.ofNat i3) + (1 : Int32))), .val (.int (g i3))]) rfl k) ?_
    show o_Go _ _ _ _ T11 (mkF m 41 #[.val (.ref a_1), .val (.int (Int32.ofNat (i3 + 1))), .val (.ref a_3), .val (.int (Int32.ofNat (i3 + 1))), .val (.int z), .val (.int ((Int32.ofNat i3) + (1 : Int32))), .val (.int (g i3))] [])
    rw [o_inc]
    show o_Go _ _ _ _ T11 (mkF m 41 #[.val (.ref a_1), .val (.int (Int32.ofNat (i3 + 1))), .val (.ref a_3), .val (.int (Int32.ofNat (i3 + 1))), .val (.int z), .val (.int (Int32.ofNat (i3 + 1))), .val (.int (g i3))] [])
    refine xg X11 B 41 3 rfl d38_41 (by decide) ?_
    have f13 := (f3a_0.other W11 hd_a_1_a_3)
    exact ag3 _ _ ⟨_, h11, _, Or.inr ⟨_, rfl⟩, X11, e11, N11, K11, f13, (by rw [← o_fill_s]; exact V11), rfl⟩
  · rintro T3b g3b ⟨L3b, h3b, s63b, hs63b, X3b, e3b, N3b, K3b, f3b_0, f3b_1, rfl⟩
    have z14 := K3b.1
    have z15 := o_lt f3b_0.lt
    have z16 := o_lt f3b_1.lt
    show o_Go _ _ _ _ T3b (mkF m 3 #[.val (.ref a_1), .val (.int (Int32.ofNat kk)), .val (.ref a_3), .val (.int (Int32.ofNat kk)), .val (.int z), .val (.int (Int32.ofNat kk)), s63b] [])
    refine xI X3b B d38_3 rfl ?_
    refine xI X3b B d38_5 rfl ?_
    by_cases hc17 : (Int32.ofNat kk) < z
    · refine xm X3b B d38_7 (XT.ii_ge_f hc17) ?_
      have hkz := o_lti hz0 hk31 hc17
      refine xa X3b B d38_10 rfl rfl ?_
      refine xi X3b B d38_11 rfl ?_
      obtain ⟨q18, c18, R18, s18, t18⟩ := id f3b_0
      have hin18 : ¬ ((Int32.ofNat kk) < 0 ∨ c18.slots.size ≤ ((Int32.ofNat kk)).toNatClampNeg) := inb_of s18 (o_ixb (z := z) (n := (z).toNatClampNeg) (by omega) rfl)
      have u18 : c18.slots[((Int32.ofNat kk)).toNatClampNeg]? = some (.int (g kk)) := o_at (k := kk) t18 s18 hin18 (o_tn (by omega)) (rfl)
      refine o_go (fun _ k => X3b.caload hx (j := (Int32.ofNat kk)) (v := (.int (g kk))) (by rw [e3b]; exact R18.1) (State.isArrayOf_alike hZ.alike R18.2.1) R18.2.2 hin18 u18 (g := (mkF m 12 #[.val (.ref a_1), .val (.int (Int32.ofNat kk)), .val (.ref a_3), .val (.int (Int32.ofNat kk)), .val (.int z), .val (.int (Int32.ofNat kk)), s63b] [(.int (Int32.ofNat kk)), (.ref a_1)])) rfl rfl (hb hby d38_12) _ k) ?_
      show o_Go _ _ _ _ T3b (mkF m 13 #[.val (.ref a_1), .val (.int (Int32.ofNat kk)), .val (.ref a_3), .val (.int (Int32.ofNat kk)), .val (.int z), .val (.int (Int32.ofNat kk)), s63b] [(.int (g kk))])
      refine xS X3b B d38_13 (l' := #[.val (.ref a_1), .val (.int (Int32.ofNat kk)), .val (.ref a_3), .val (.int (Int32.ofNat kk)), .val (.int z), .val (.int (Int32.ofNat kk)), .val (.int (g kk))]) (by rcases hs63b with rfl | ⟨_, rfl⟩ <;> rfl) ?_
      refine xI X3b B d38_15 rfl ?_
      refine xh X3b B d38_17 255 rfl ?_
      have hc19 : (255 : Int32) < (g kk) := o_t38_2 z g kk hle hkk hwt hz0 hk31 hc17
      refine xm X3b B d38_20 (XT.ii_le_f hc19) ?_
      refine xI X3b B d38_23 rfl ?_
      exact o_retI X3b B hret (Or.inl rfl) rfl d38_25 (by decide) e3b ⟨rfl, N3b, K3b, f3b_1⟩
    · refine xM X3b B 7 44 rfl d38_7 (XT.ii_ge_t hc17) (by decide) ?_
      refine xI X3b B d38_44 rfl ?_
      exact o_retI X3b B hret (Or.inl rfl) rfl d38_46 (by decide) e3b ⟨(congrArg (fun q => some (Value.int q)) (o_eqz hz0 hkk hc17)), N3b, K3b, f3b_1⟩
theorem d36_0 : decode c36' 0 = .ok (.aload_n 0, 1) := by decide +kernel
theorem d36_1 : decode c36' 1 = .ok (.arraylength, 1) := by decide +kernel
theorem d36_2 : decode c36' 2 = .ok (.aload_n 1, 1) := by decide +kernel
theorem d36_3 : decode c36' 3 = .ok (.arraylength, 1) := by decide +kernel
theorem d36_4 : decode c36' 4 = .ok (.if_icmp .ne 30, 3) := by decide +kernel
theorem d36_7 : decode c36' 7 = .ok (.iconst 0, 1) := by decide +kernel
theorem d36_8 : decode c36' 8 = .ok (.istore_n 2, 1) := by decide +kernel
theorem d36_9 : decode c36' 9 = .ok (.iload_n 2, 1) := by decide +kernel
theorem d36_10 : decode c36' 10 = .ok (.aload_n 0, 1) := by decide +kernel
theorem d36_11 : decode c36' 11 = .ok (.arraylength, 1) := by decide +kernel
theorem d36_12 : decode c36' 12 = .ok (.if_icmp .ge 20, 3) := by decide +kernel
theorem d36_15 : decode c36' 15 = .ok (.aload_n 0, 1) := by decide +kernel
theorem d36_16 : decode c36' 16 = .ok (.iload_n 2, 1) := by decide +kernel
theorem d36_17 : decode c36' 17 = .ok (.baload, 1) := by decide +kernel
theorem d36_18 : decode c36' 18 = .ok (.aload_n 1, 1) := by decide +kernel
theorem d36_19 : decode c36' 19 = .ok (.iload_n 2, 1) := by decide +kernel
theorem d36_20 : decode c36' 20 = .ok (.baload, 1) := by decide +kernel
theorem d36_21 : decode c36' 21 = .ok (.if_icmp .eq 5, 3) := by decide +kernel
theorem d36_26 : decode c36' 26 = .ok (.iinc 2 1, 3) := by decide +kernel
theorem d36_29 : decode c36' 29 = .ok (.goto (-20), 3) := by decide +kernel
theorem d36_32 : decode c36' 32 = .ok (.iconst 1, 1) := by decide +kernel
theorem d36_33 : decode c36' 33 = .ok (.ireturn, 1) := by decide +kernel
theorem o_t36_0 (z : Int32) (fa : Nat → Int32) (fb : Nat → Int32) (i4 : Nat) (heq : ∀ i, i < (z).toNatClampNeg → o_by fa i = o_by fb i) (hz0 : ¬ (z < 0)) (hlt4 : i4 < (z).toNatClampNeg) : (Int32.ofNat i4) < z := by
  exact o_ilt hlt4
theorem o_t36_1 (z : Int32) (fa : Nat → Int32) (fb : Nat → Int32) (i4 : Nat) (heq : ∀ i, i < (z).toNatClampNeg → o_by fa i = o_by fb i) (hz0 : ¬ (z < 0)) (hlt4 : i4 < (z).toNatClampNeg) (hc5 : (Int32.ofNat i4) < z) : ((fa i4).toInt8.toInt32) = ((fb i4).toInt8.toInt32) := by
  exact Value.int.inj (heq i4 hlt4)
theorem o_t36_2 (z : Int32) (fa : Nat → Int32) (fb : Nat → Int32) (heq : ∀ i, i < (z).toNatClampNeg → o_by fa i = o_by fb i) (hz0 : ¬ (z < 0)) : ¬ ((Int32.ofNat (z).toNatClampNeg) < z) := by
  exact o_ige hz0 (Nat.le_refl _) o_zn
theorem o_rm36 (hw : o_T Z a0) (Z0 : n0 ≤ h0.size) (a_1 a_2 : Addr) (z : Int32) (fa fb : Nat → Int32) (j0 : o_AV Z h0 a_1 .byte z (o_by fa)) (j1 : o_AV Z h0 a_2 .byte z (o_by fb)) (heq : ∀ i, i < (z).toNatClampNeg → o_by fa i = o_by fb i) (hz0 : ¬ (z < 0)) :
    M36' l Z (o_rm 0 0 0 0) #[(.ref a_1), (.ref a_2)] h0 (fun v h L => v = some (.int 1) ∧ Fr n0 L ∧ h = h0) := by
  refine o_start (plainFor_of_name o_pn1) (L0 := #[.val (.ref a_1), .val (.ref a_2), .unset]) (fun _ => rfl) fun p e s m below meth c s₁ hx hby hml hown hnm hret hZ X0 e0 B H => ?_
  have N0 := Fr.nil n0
  have z0 : n0 ≤ h0.size := Z0
  have z1 := o_lt j0.lt
  have z2 := o_lt j1.lt
  have hzz := o_zn (z := z)
  refine xa X0 B d36_0 rfl rfl ?_
  refine xl X0 B H e0 j0 d36_1 ?_
  refine xa X0 B d36_2 rfl rfl ?_
  refine xl X0 B H e0 j1 d36_3 ?_
  have hc3 : z = z := rfl
  refine xm X0 B d36_4 (XT.ii_ne_f hc3) ?_
  refine xc X0 B d36_7 0 rfl ?_
  refine xs X0 B d36_8 (l' := #[.val (.ref a_1), .val (.ref a_2), .val (.int 0)]) rfl ?_
  refine o_loop (n := (z).toNatClampNeg) (Inv := fun iI TI gI => ∃ (LI : List Loc), Stand p l e (o_rm 0 0 0 0) s m #[(.ref a_1), (.ref a_2)] below meth c TI LI 0 0 ∧ TI.heap = h0 ∧ Fr n0 LI ∧ gI = mkF m 9 #[.val (.ref a_1), .val (.ref a_2), .val (.int (Int32.ofNat iI))] []) ?_ ?_ ⟨_, X0, e0, N0, rfl⟩
  · rintro i4 T4a g4a hlt4 ⟨L4a, X4a, e4a, N4a, rfl⟩ ag4
    show o_Go _ _ _ _ T4a (mkF m 9 #[.val (.ref a_1), .val (.ref a_2), .val (.int (Int32.ofNat i4))] [])
    refine xi X4a B d36_9 rfl ?_
    refine xa X4a B d36_10 rfl rfl ?_
    refine xl X4a B H e4a j0 d36_11 ?_
    have hc5 : (Int32.ofNat i4) < z := o_t36_0 z fa fb i4 heq hz0 hlt4
    refine xm X4a B d36_12 (XT.ii_ge_f hc5) ?_
    refine xa X4a B d36_15 rfl rfl ?_
    refine xi X4a B d36_16 rfl ?_
    obtain ⟨q6, c6, R6, s6, t6⟩ := id j0
    have hin6 : ¬ ((Int32.ofNat i4) < 0 ∨ c6.slots.size ≤ ((Int32.ofNat i4)).toNatClampNeg) := inb_of s6 (o_ixb (z := z) (n := (z).toNatClampNeg) (by omega) rfl)
    have u6 : c6.slots[((Int32.ofNat i4)).toNatClampNeg]? = some (.int ((fa i4).toInt8.toInt32)) := o_at (k := i4) t6 s6 hin6 (o_tn (by omega)) (rfl)
    refine o_go (fun _ k => X4a.baloadBytes hx (j := (Int32.ofNat i4)) (v := (.int ((fa i4).toInt8.toInt32))) (by rw [e4a]; exact R6.1) (State.isArrayOf_alike hZ.alike R6.2.1) R6.2.2 hin6 u6 (g := (mkF m 17 #[.val (.ref a_1), .val (.ref a_2), .val (.int (Int32.ofNat i4))] [(.int (Int32.ofNat i4)), (.ref a_1)])) rfl rfl (hb hby d36_17) _ k) ?_
    show o_Go _ _ _ _ T4a (mkF m 18 #[.val (.ref a_1), .val (.ref a_2), .val (.int (Int32.ofNat i4))] [(.int ((fa i4).toInt8.toInt32))])
    refine xa X4a B d36_18 rfl rfl ?_
    refine xi X4a B d36_19 rfl ?_
    obtain ⟨q7, c7, R7, s7, t7⟩ := id j1
    have hin7 : ¬ ((Int32.ofNat i4) < 0 ∨ c7.slots.size ≤ ((Int32.ofNat i4)).toNatClampNeg) := inb_of s7 (o_ixb (z := z) (n := (z).toNatClampNeg) (by omega) rfl)
    have u7 : c7.slots[((Int32.ofNat i4)).toNatClampNeg]? = some (.int ((fb i4).toInt8.toInt32)) := o_at (k := i4) t7 s7 hin7 (o_tn (by omega)) (rfl)
    refine o_go (fun _ k => X4a.baloadBytes hx (j := (Int32.ofNat i4)) (v := (.int ((fb i4).toInt8.toInt32))) (by rw [e4a]; exact R7.1) (State.isArrayOf_alike hZ.alike R7.2.1) R7.2.2 hin7 u7 (g := (mkF m 20 #[.val (.ref a_1), .val (.ref a_2), .val (.int (Int32.ofNat i4))] [(.int (Int32.ofNat i4)), (.ref a_2), (.int ((fa i4).toInt8.toInt32))])) rfl rfl (hb hby d36_20) _ k) ?_
    show o_Go _ _ _ _ T4a (mkF m 21 #[.val (.ref a_1), .val (.ref a_2), .val (.int (Int32.ofNat i4))] [(.int ((fb i4).toInt8.toInt32)), (.int ((fa i4).toInt8.toInt32))])
    have hc8 : ((fa i4).toInt8.toInt32) = ((fb i4).toInt8.toInt32) := o_t36_1 z fa fb i4 heq hz0 hlt4 hc5
    refine xM X4a B 21 26 rfl d36_21 (XT.ii_eq_t hc8) (by decide) ?_
    refine o_go (fun _ k => XS.iinc X4a.here hx rfl (hb hby d36_26) rfl (l' := #[.val (.ref a_1), .val (.ref a_2), .val (.int ((Int32.ofNat i4) + (1 : Int32)))]) rfl k) ?_
    show o_Go _ _ _ _ T4a (mkF m 29 #[.val (.ref a_1), .val (.ref a_2), .val (.int ((Int32.ofNat i4) + (1 : Int32)))] [])
    rw [o_inc]
    show o_Go _ _ _ _ T4a (mkF m 29 #[.val (.ref a_1), .val (.ref a_2), .val (.int (Int32.ofNat (i4 + 1)))] [])
    refine xg X4a B 29 9 rfl d36_29 (by decide) ?_
    exact ag4 _ _ ⟨_, X4a, e4a, N4a, rfl⟩
  · rintro T4b g4b ⟨L4b, X4b, e4b, N4b, rfl⟩
    show o_Go _ _ _ _ T4b (mkF m 9 #[.val (.ref a_1), .val (.ref a_2), .val (.int (Int32.ofNat (z).toNatClampNeg))] [])
    refine xi X4b B d36_9 rfl ?_
    refine xa X4b B d36_10 rfl rfl ?_
    refine xl X4b B H e4b j0 d36_11 ?_
    have hc9 : ¬ ((Int32.ofNat (z).toNatClampNeg) < z) := o_t36_2 z fa fb heq hz0
    refine xM X4b B 12 32 rfl d36_12 (XT.ii_ge_t hc9) (by decide) ?_
    refine xc X4b B d36_32 1 rfl ?_
    exact o_retI X4b B hret (Or.inr (Or.inl rfl)) rfl d36_33 (by decide) e4b ⟨rfl, N4b, rfl⟩
theorem d35_0 : decode c35' 0 = .ok (.aload_n 0, 1) := by decide +kernel
theorem d35_1 : decode c35' 1 = .ok (.aload_n 1, 1) := by decide +kernel
theorem d35_2 : decode c35' 2 = .ok (.if_acmp .ne 5, 3) := by decide +kernel
theorem d35_7 : decode c35' 7 = .ok (.aload_n 1, 1) := by decide +kernel
theorem d35_8 : decode c35' 8 = .ok (.instanceof 10, 3) := by decide +kernel
theorem d35_11 : decode c35' 11 = .ok (.ifCond .eq 43, 3) := by decide +kernel
theorem d35_14 : decode c35' 14 = .ok (.aload_n 1, 1) := by decide +kernel
theorem d35_15 : decode c35' 15 = .ok (.checkcast 10, 3) := by decide +kernel
theorem d35_18 : decode c35' 18 = .ok (.astore_n 2, 1) := by decide +kernel
theorem d35_19 : decode c35' 19 = .ok (.getstatic 38, 3) := by decide +kernel
theorem d35_22 : decode c35' 22 = .ok (.ifCond .eq 14, 3) := by decide +kernel
theorem d35_25 : decode c35' 25 = .ok (.aload_n 0, 1) := by decide +kernel
theorem d35_26 : decode c35' 26 = .ok (.getfield 15, 3) := by decide +kernel
theorem d35_29 : decode c35' 29 = .ok (.aload_n 2, 1) := by decide +kernel
theorem d35_30 : decode c35' 30 = .ok (.getfield 15, 3) := by decide +kernel
theorem d35_33 : decode c35' 33 = .ok (.if_icmp .ne 21, 3) := by decide +kernel
theorem d35_36 : decode c35' 36 = .ok (.aload_n 0, 1) := by decide +kernel
theorem d35_37 : decode c35' 37 = .ok (.getfield 9, 3) := by decide +kernel
theorem d35_40 : decode c35' 40 = .ok (.aload_n 2, 1) := by decide +kernel
theorem d35_41 : decode c35' 41 = .ok (.getfield 9, 3) := by decide +kernel
theorem d35_44 : decode c35' 44 = .ok (.invokestatic 541, 3) := by decide +kernel
theorem d35_47 : decode c35' 47 = .ok (.ifCond .eq 7, 3) := by decide +kernel
theorem d35_50 : decode c35' 50 = .ok (.iconst 1, 1) := by decide +kernel
theorem d35_51 : decode c35' 51 = .ok (.goto 4, 3) := by decide +kernel
theorem d35_55 : decode c35' 55 = .ok (.ireturn, 1) := by decide +kernel
theorem o_rm35 (hw : o_T Z a0) (Z0 : n0 ≤ h0.size) (a_1 a_2 : Addr) (z cd : Int32) (o1 o2 : Addr) (fa fb : Nat → Int32) (j0 : o_E0 Z h0 a_1) (j1 : o_E0 Z h0 a_2) (j2 : o_F1 Z h0 a_1 (.int cd)) (j3 : o_F1 Z h0 a_2 (.int cd)) (j4 : o_F2 Z h0 a_1 (.ref o1)) (j5 : o_F2 Z h0 a_2 (.ref o2)) (j6 : o_AV Z h0 o1 .byte z (o_by fa)) (j7 : o_AV Z h0 o2 .byte z (o_by fb)) (j8 : o_G Z h0) (heq : ∀ i, i < (z).toNatClampNeg → o_by fa i = o_by fb i) (hz0 : ¬ (z < 0)) (hd_a_1_a_2 : o_df a_1 a_2) :
    M35' l Z (o_rm 1 0 0 14) #[(.ref a_1), (.ref a_2)] h0 (fun v h L => v = some (.int 1) ∧ Fr n0 L ∧ h = h0) := by
  refine o_start (plainFor_of_name o_pn2) (L0 := #[.val (.ref a_1), .val (.ref a_2), .unset]) (fun _ => rfl) fun p e s m below meth c s₁ hx hby hml hown hnm hret hZ X0 e0 B H => ?_
  have N0 := Fr.nil n0
  have z0 : n0 ≤ h0.size := Z0
  have z1 := o_lt j0.lt
  have z2 := o_lt j1.lt
  have z3 := o_lt j6.lt
  have z4 := o_lt j7.lt
  refine xa X0 B d35_0 rfl rfl ?_
  refine xa X0 B d35_1 rfl rfl ?_
  refine o_go (fun _ k => Jvm.RoadKit.acmp (g := (mkF m 2 #[.val (.ref a_1), .val (.ref a_2), .unset] [(.ref a_2), (.ref a_1)])) X0 hx rfl rfl rfl (pc0 := 2) (pc' := 7) (same := false) rfl (hb hby d35_2) rfl (decide_eq_false fun q => absurd (Value.ref.inj q) hd_a_1_a_2) (by decide) (by decide) k) ?_
  show o_Go _ _ _ _ s₁ (mkF m 7 #[.val (.ref a_1), .val (.ref a_2), .unset] [])
  refine xa X0 B d35_7 rfl rfl ?_
  obtain ⟨T5, X5, e5, st5⟩ := instY X0 hx hZ hown (o_h hw 206 rfl) e0 (Ins.self j1) (g := (mkF m 8 #[.val (.ref a_1), .val (.ref a_2), .unset] [(.ref a_2)])) rfl rfl (hb hby d35_8)
  refine o_go st5 ?_
  have hc6 : ¬ ((1 : Int32) = 0) := by decide
  refine xn X5 B d35_11 (XT.i0_eq_f hc6) ?_
  refine xa X5 B d35_14 rfl rfl ?_
  obtain ⟨T7, X7, e7, st7⟩ := castY X5 hx hZ hown (o_h hw 206 rfl) e5 (Ins.self j1) (g := (mkF m 15 #[.val (.ref a_1), .val (.ref a_2), .unset] [(.ref a_2)])) rfl rfl (hb hby d35_15)
  refine o_go st7 ?_
  refine xt X7 B d35_18 rfl (l' := #[.val (.ref a_1), .val (.ref a_2), .val (.ref a_2)]) rfl ?_
  refine o_gs X7 B H (o_w70 hw) e7 j8.1 d35_19 fun T8 X8 e8 => ?_
  refine xn X8 B d35_22 (XT.i0_eq_f (o_hcs j8)) ?_
  refine xa X8 B d35_25 rfl rfl ?_
  refine o_gf X8 B H (o_w21 hw) e8 j2 d35_26 fun T10 X10 e10 => ?_
  refine xa X10 B d35_29 rfl rfl ?_
  refine o_gf X10 B H (o_w21 hw) e10 j3 d35_30 fun T11 X11 e11 => ?_
  have hc12 : cd = cd := rfl
  refine xm X11 B d35_33 (XT.ii_ne_f hc12) ?_
  refine xa X11 B d35_36 rfl rfl ?_
  refine o_gf X11 B H (o_w20 hw) e11 j4 d35_37 fun T13 X13 e13 => ?_
  refine xa X13 B d35_40 rfl rfl ?_
  refine o_gf X13 B H (o_w20 hw) e13 j5 d35_41 fun T14 X14 e14 => ?_
  refine o_cst X14 B H e14 (o_rm36 (n0 := n0) hw (by omega) o1 o2 z fa fb j6 j7 (show ∀ i, i < (z).toNatClampNeg → o_by fa i = o_by fb i by first | assumption | omega | decide) (show ¬ (z < 0) by first | assumption | omega | decide)) (o_h hw 207 rfl) (o_h hw 208 rfl) (o_w209 hw) (o_h hw 210 rfl) rfl (lenOf o_pd0 rfl) rfl rfl (W := 0) rfl d35_44 (by decide) ?_
  rintro _ T15 L15 X15 ⟨rfl, N15q, e15⟩
  have N15 := Fr.app N0 N15q
  have hc16 : ¬ ((1 : Int32) = 0) := by decide
  refine xn X15 B d35_47 (XT.i0_eq_f hc16) ?_
  refine xc X15 B d35_50 1 rfl ?_
  refine xg X15 B 51 55 rfl d35_51 (by decide) ?_
  exact o_retI X15 B hret (Or.inr (Or.inl rfl)) rfl d35_55 (by decide) e15 ⟨rfl, N15, rfl⟩
theorem d37_0 : decode c37' 0 = .ok (.iload_n 2, 1) := by decide +kernel
theorem d37_1 : decode c37' 1 = .ok (.newarray .byte, 2) := by decide +kernel
theorem d37_3 : decode c37' 3 = .ok (.astore_n 3, 1) := by decide +kernel
theorem d37_4 : decode c37' 4 = .ok (.aload_n 0, 1) := by decide +kernel
theorem d37_5 : decode c37' 5 = .ok (.iload_n 1, 1) := by decide +kernel
theorem d37_6 : decode c37' 6 = .ok (.aload_n 3, 1) := by decide +kernel
theorem d37_7 : decode c37' 7 = .ok (.iconst 0, 1) := by decide +kernel
theorem d37_8 : decode c37' 8 = .ok (.iload_n 2, 1) := by decide +kernel
theorem d37_9 : decode c37' 9 = .ok (.invokestatic 115, 3) := by decide +kernel
theorem d37_12 : decode c37' 12 = .ok (.istore 4, 2) := by decide +kernel
theorem d37_14 : decode c37' 14 = .ok (.iload 4, 2) := by decide +kernel
theorem d37_16 : decode c37' 16 = .ok (.iload_n 2, 1) := by decide +kernel
theorem d37_17 : decode c37' 17 = .ok (.if_icmp .eq 40, 3) := by decide +kernel
theorem d37_57 : decode c37' 57 = .ok (.aload_n 3, 1) := by decide +kernel
theorem d37_58 : decode c37' 58 = .ok (.areturn, 1) := by decide +kernel
theorem o_t37_L3_0   : (Int32.ofNat 3) = (3 : Int32) := by
  decide
theorem o_rm37_L3 (hw : o_T Z a0) (Z0 : n0 ≤ h0.size) (a_1 : Addr) (g : Nat → Int32) (j0 : o_AV Z h0 a_1 .char (3 : Int32) (o_ch g)) (hle : ∀ i, i < 3 → ¬ ((255 : Int32) < (g i))) :
    M37' l Z (o_rm 1 1 3 18) #[(.ref a_1), (.int 0), (.int 3)] h0 (fun v h L => ∃ (x_0 : Addr), v = some (.ref x_0) ∧ Fr n0 L ∧ Keep h0 h [] ∧ o_AV Z h x_0 .byte (3 : Int32) (o_by (o_fill g (fun _ => 0) 3)) ∧ (h0.size ≤ x_0)) := by
  refine o_start (plainFor_of_name o_pn0) (L0 := #[.val (.ref a_1), .val (.int 0), .val (.int 3), .unset, .unset, .unset]) (fun _ => rfl) fun p e s m below meth c s₁ hx hby hml hown hnm hret hZ X0 e0 B H => ?_
  have N0 := Fr.nil n0
  have z0 : n0 ≤ h0.size := Z0
  have z1 := o_lt j0.lt
  have K0 : Keep h0 h0 [] := Keep.refl h0 _
  refine xi X0 B d37_0 rfl ?_
  obtain ⟨T2, h2, k2, X2, e2, E2, A2, st2⟩ := newP X0 hx hZ (hw _ (List.mem_of_getElem? (i := 15) rfl)) e0 (g := (mkF m 1 #[.val (.ref a_1), .val (.int 0), .val (.int 3), .unset, .unset, .unset] [(.int 3)])) rfl (hb hby d37_1) rfl (by decide) (cap := 3) (by decide) (by decide) (by decide) (by decide)
  obtain ⟨b2, g2⟩ : ∃ z, z = h0.size := ⟨_, rfl⟩
  rw [← g2] at A2 st2
  have z3 := E2.1
  have lt_b2 := o_lt A2.lt
  have K2 := K0.ext E2
  have V_b2 : o_AV Z h2 b2 .byte (3 : Int32) (o_by (fun _ => 0)) := o_AV.congr (o_AV.new A2 (by decide)) fun i _ => (o_by0 i).symm
  refine o_go st2 ?_
  refine xt X2 B d37_3 rfl (l' := #[.val (.ref a_1), .val (.int 0), .val (.int 3), .val (.ref b2), .unset, .unset]) rfl ?_
  refine xa X2 B d37_4 rfl rfl ?_
  refine xi X2 B d37_5 rfl ?_
  refine xa X2 B d37_6 rfl rfl ?_
  refine xc X2 B d37_7 0 rfl ?_
  refine xi X2 B d37_8 rfl ?_
  have f4 := (j0.ext E2)
  refine o_cst X2 B H e2 (o_rm38 (n0 := n0) hw (by omega) a_1 b2 (3 : Int32) g (fun _ => 0) 3 f4 V_b2 hle (by decide) (fun q => absurd q (by decide)) (o_ne (by omega)) (by decide) (by decide) (by omega)) (o_h hw 215 rfl) (o_h hw 216 rfl) (o_w213 hw) (o_h hw 217 rfl) rfl (lenOf o_pd1 rfl) rfl rfl (W := 0) rfl d37_9 (by decide) ?_
  rintro _ T5 L5 X5 ⟨rfl, N5q, K5q, f6⟩
  have N5 := Fr.app N0 N5q
  have z7 := K5q.1
  have K5 := K2.trans K5q (allS (Or.inr (by omega)) all0)
  have z8 := o_lt f6.lt
  refine xS X5 B d37_12 (l' := #[.val (.ref a_1), .val (.int 0), .val (.int 3), .val (.ref b2), .val (.int (Int32.ofNat 3)), .unset]) rfl ?_
  refine xI X5 B d37_14 rfl ?_
  refine xi X5 B d37_16 rfl ?_
  have hc9 : (Int32.ofNat 3) = (3 : Int32) := o_t37_L3_0  
  refine xM X5 B 17 57 rfl d37_17 (XT.ii_eq_t hc9) (by decide) ?_
  refine xa X5 B d37_57 rfl rfl ?_
  exact o_retA X5 B hret rfl rfl rfl d37_58 (by decide) rfl ⟨b2, rfl, N5, K5, f6, (by omega)⟩
theorem d39_0 : decode c39' 0 = .ok (.iload_n 1, 1) := by decide +kernel
theorem d39_1 : decode c39' 1 = .ok (.aload_n 0, 1) := by decide +kernel
theorem d39_2 : decode c39' 2 = .ok (.arraylength, 1) := by decide +kernel
theorem d39_3 : decode c39' 3 = .ok (.isub, 1) := by decide +kernel
theorem d39_4 : decode c39' 4 = .ok (.bipush 31, 2) := by decide +kernel
theorem d39_6 : decode c39' 6 = .ok (.iushr, 1) := by decide +kernel
theorem d39_7 : decode c39' 7 = .ok (.i2b, 1) := by decide +kernel
theorem d39_8 : decode c39' 8 = .ok (.ireturn, 1) := by decide +kernel
theorem o_rm39_s1 (hw : o_T Z a0) (Z0 : n0 ≤ h0.size) (a_1 : Addr) (fa_a_1 : Nat → Int32) (j0 : o_AV Z h0 a_1 .byte (3 : Int32) (o_by fa_a_1)) :
    M39' l Z (o_rm 0 0 0 0) #[(.ref a_1), (.int 3)] h0 (fun v h L => v = some (.int 0) ∧ Fr n0 L ∧ h = h0) := by
  refine o_start (plainFor_of_name o_pn0) (L0 := #[.val (.ref a_1), .val (.int 3)]) (fun _ => rfl) fun p e s m below meth c s₁ hx hby hml hown hnm hret hZ X0 e0 B H => ?_
  have N0 := Fr.nil n0
  have z0 : n0 ≤ h0.size := Z0
  have z1 := o_lt j0.lt
  refine xi X0 B d39_0 rfl ?_
  refine xa X0 B d39_1 rfl rfl ?_
  refine xl X0 B H e0 j0 d39_2 ?_
  refine xsub X0 B d39_3 (0) rfl ?_
  refine xb X0 B d39_4 31 rfl ?_
  refine o_go (fun _ k => XS.iushr X0.here hx rfl (hb hby d39_6) rfl k) ?_
  show o_Go _ _ _ _ s₁ (mkF m 7 #[.val (.ref a_1), .val (.int 3)] [(.int 0)])
  refine o_go (fun _ k => XS.i2b X0.here hx rfl (hb hby d39_7) rfl k) ?_
  show o_Go _ _ _ _ s₁ (mkF m 8 #[.val (.ref a_1), .val (.int 3)] [(.int 0)])
  exact o_retI X0 B hret (Or.inr (Or.inr (Or.inl rfl))) rfl d39_8 (by decide) e0 ⟨rfl, N0, rfl⟩
theorem d2_0 : decode c2' 0 = .ok (.aload_n 0, 1) := by decide +kernel
theorem d2_1 : decode c2' 1 = .ok (.invokespecial 1, 3) := by decide +kernel
theorem d2_4 : decode c2' 4 = .ok (.iload_n 3, 1) := by decide +kernel
theorem d2_5 : decode c2' 5 = .ok (.ifCond .ne 22, 3) := by decide +kernel
theorem d2_27 : decode c2' 27 = .ok (.getstatic 38, 3) := by decide +kernel
theorem d2_30 : decode c2' 30 = .ok (.ifCond .eq 28, 3) := by decide +kernel
theorem d2_33 : decode c2' 33 = .ok (.aload_n 1, 1) := by decide +kernel
theorem d2_34 : decode c2' 34 = .ok (.iload_n 2, 1) := by decide +kernel
theorem d2_35 : decode c2' 35 = .ok (.iload_n 3, 1) := by decide +kernel
theorem d2_36 : decode c2' 36 = .ok (.invokestatic 177, 3) := by decide +kernel
theorem d2_39 : decode c2' 39 = .ok (.astore 5, 2) := by decide +kernel
theorem d2_41 : decode c2' 41 = .ok (.aload_n 0, 1) := by decide +kernel
theorem d2_42 : decode c2' 42 = .ok (.aload 5, 2) := by decide +kernel
theorem d2_44 : decode c2' 44 = .ok (.iload_n 3, 1) := by decide +kernel
theorem d2_45 : decode c2' 45 = .ok (.invokestatic 47, 3) := by decide +kernel
theorem d2_48 : decode c2' 48 = .ok (.putfield 15, 3) := by decide +kernel
theorem d2_51 : decode c2' 51 = .ok (.aload_n 0, 1) := by decide +kernel
theorem d2_52 : decode c2' 52 = .ok (.aload 5, 2) := by decide +kernel
theorem d2_54 : decode c2' 54 = .ok (.putfield 9, 3) := by decide +kernel
theorem d2_57 : decode c2' 57 = .ok (.return_, 1) := by decide +kernel
theorem o_rm2_L3 (hw : o_T Z a0) (Z0 : n0 ≤ h0.size) (a_1 a_2 : Addr) (g : Nat → Int32) (u_0 u_1 : Value) (j0 : o_G Z h0) (j1 : o_E0 Z h0 a_1) (j2 : o_F2 Z h0 a_1 u_0) (j3 : o_F1 Z h0 a_1 u_1) (j4 : o_AV Z h0 a_2 .char (3 : Int32) (o_ch g)) (hle : ∀ i, i < 3 → ¬ ((255 : Int32) < (g i))) (hd_a_1_a_2 : o_df a_1 a_2) (gw_a_1 : n0 ≤ a_1) :
    M2' l Z (o_rm 2 1 3 35) #[(.ref a_1), (.ref a_2), (.int 0), (.int 3), .null] h0 (fun v h L => ∃ (x_0 : Addr), v = none ∧ Fr n0 L ∧ Keep h0 h [a_1] ∧ o_E0 Z h a_1 ∧ o_F2 Z h a_1 (.ref x_0) ∧ o_F1 Z h a_1 (.int 0) ∧ o_AV Z h x_0 .byte (3 : Int32) (o_by (o_fill g (fun _ => 0) 3)) ∧ (h0.size ≤ x_0)) := by
  refine o_start (plainFor_of_name o_pn2) (L0 := #[.val (.ref a_1), .val (.ref a_2), .val (.int 0), .val (.int 3), .val .null, .unset]) (fun _ => rfl) fun p e s m below meth c s₁ hx hby hml hown hnm hret hZ X0 e0 B H => ?_
  have N0 := Fr.nil n0
  have z0 : n0 ≤ h0.size := Z0
  have z1 := o_lt j1.lt
  have z2 := o_lt j4.lt
  have K0 : Keep h0 h0 [a_1] := Keep.refl h0 _
  refine xa X0 B d2_0 rfl rfl ?_
  obtain ⟨T3, X3, e3, st3⟩ := initO X0 hx hZ hown (o_w11 hw) (o_w12 hw) (o_w13 hw) e0 (g := (mkF m 1 #[.val (.ref a_1), .val (.ref a_2), .val (.int 0), .val (.int 3), .val .null, .unset] [(.ref a_1)])) rfl (by rw [hml]; rfl) rfl (hb hby d2_1) (by decide) (W := 0) (by show 2 * 0 + _ ≤ _; exact Nat.le_of_eq rfl) (by decide)
  refine o_go st3 ?_
  refine xi X3 B d2_4 rfl ?_
  have hc4 : ¬ ((3 : Int32) = 0) := by decide
  refine xy X3 B 5 27 rfl d2_5 (XT.i0_ne_t hc4) (by decide) ?_
  refine o_gs X3 B H (o_w70 hw) e3 j0.1 d2_27 fun T5 X5 e5 => ?_
  refine xn X5 B d2_30 (XT.i0_eq_f (o_hcs j0)) ?_
  refine xa X5 B d2_33 rfl rfl ?_
  refine xi X5 B d2_34 rfl ?_
  refine xi X5 B d2_35 rfl ?_
  refine o_cst X5 B H e5 (o_rm37_L3 (n0 := n0) hw (by omega) a_2 g j4 (show ∀ i, i < 3 → ¬ ((255 : Int32) < (g i)) by first | assumption | omega | decide)) (o_h hw 211 rfl) (o_h hw 212 rfl) (o_w213 hw) (o_h hw 214 rfl) rfl (lenOf o_pd2 rfl) rfl rfl (W := 0) rfl d2_36 (by decide) ?_
  rintro _ T7 L7 X7 ⟨x_8, rfl, N7q, K7q, f9, f10⟩
  have N7 := Fr.app N0 N7q
  have z11 := K7q.1
  have K7 := K0.trans K7q all0
  have z12 := o_lt f9.lt
  refine xT X7 B d2_39 rfl (l' := #[.val (.ref a_1), .val (.ref a_2), .val (.int 0), .val (.int 3), .val .null, .val (.ref x_8)]) rfl ?_
  refine xa X7 B d2_41 rfl rfl ?_
  refine xA X7 B d2_42 rfl rfl ?_
  refine xi X7 B d2_44 rfl ?_
  refine o_cst X7 B H rfl (o_rm39_s1 (n0 := n0) hw (by omega) x_8 (o_fill g (fun _ => 0) 3) f9) (o_h hw 218 rfl) (o_h hw 219 rfl) (o_w213 hw) (o_h hw 220 rfl) rfl (lenOf o_pd3 rfl) rfl rfl (W := 1) rfl d2_45 (by decide) ?_
  rintro _ T13 L13 X13 ⟨rfl, N13q, e13⟩
  have N13 := Fr.app N7 N13q
  have f14 := (j1.keep K7q)
  have f15 := (j3.keep K7q nin0)
  obtain ⟨T16, h16, X16, e16, W16, st16⟩ := putFN X13 hx hZ hown (o_w21 hw) Via.refl e13 f15 f14 (Or.inr ⟨(o_w17 hw), rfl, hnm⟩) (o_w1 hw) (ty := .byte) (v' := .int 0) (by decide) (rfl) (fits_nar_byte (0 : Int32)) (g := (mkF m 48 #[.val (.ref a_1), .val (.ref a_2), .val (.int 0), .val (.int 3), .val .null, .val (.ref x_8)] [(.int 0), (.ref a_1)])) rfl rfl (hb hby d2_48)
  have z17 := W16.size
  have K16 := K7.wr W16 (Or.inl o_m0)
  have N16 := Fr.snoc X16 N13 (by omega : n0 ≤ a_1)
  have Fw16 : o_F1 Z h16 a_1 (.int 0) := Fld.same W16 f15
  refine o_go st16 ?_
  refine xa X16 B d2_51 rfl rfl ?_
  refine xA X16 B d2_52 rfl rfl ?_
  have f18 := (f14.wr W16)
  have f19 := ((j2.keep K7q nin0).other W16 (Or.inr (slot_ne (Or.inr (o_w16 hw)) (Or.inr (o_w17 hw)) (by decide) (t := (.array .byte)) (t' := .byte) (by decide) (by decide))))
  obtain ⟨T20, h20, X20, e20, W20, st20⟩ := putF X16 hx hZ hown (host := "") (Or.inl (o_w20 hw)) Via.refl e16 f19 f18 (Or.inr ⟨(o_w16 hw), rfl, hnm⟩) (o_w1 hw) (ty := (.array .byte)) (by decide) rfl rfl (g := (mkF m 54 #[.val (.ref a_1), .val (.ref a_2), .val (.int 0), .val (.int 3), .val .null, .val (.ref x_8)] [(.ref x_8), (.ref a_1)])) rfl rfl (hb hby d2_54)
  have z21 := W20.size
  have K20 := K16.wr W20 (Or.inl o_m0)
  have N20 := Fr.snoc X20 N16 (by omega : n0 ≤ a_1)
  have Fw20 : o_F2 Z h20 a_1 (.ref x_8) := Fld.same W20 f19
  refine o_go st20 ?_
  have f23 := (f18.wr W20)
  have f24 := (Fw16.other W20 (Or.inr (slot_ne (Or.inr (o_w17 hw)) (Or.inr (o_w16 hw)) (by decide) (t := .byte) (t' := (.array .byte)) (by decide) (by decide))))
  have f25 := ((f9.other W16 (o_ne (by omega))).other W20 (o_ne (by omega)))
  exact o_retV X20 B hret d2_57 (by decide) e20 ⟨x_8, rfl, N20, K20, f23, Fw20, f24, f25, (by omega)⟩
theorem d1_0 : decode c1' 0 = .ok (.aload_n 0, 1) := by decide +kernel
theorem d1_1 : decode c1' 1 = .ok (.aload_n 1, 1) := by decide +kernel
theorem d1_2 : decode c1' 2 = .ok (.iconst 0, 1) := by decide +kernel
theorem d1_3 : decode c1' 3 = .ok (.aload_n 1, 1) := by decide +kernel
theorem d1_4 : decode c1' 4 = .ok (.arraylength, 1) := by decide +kernel
theorem d1_5 : decode c1' 5 = .ok (.aconst_null, 1) := by decide +kernel
theorem d1_6 : decode c1' 6 = .ok (.invokespecial 27, 3) := by decide +kernel
theorem d1_9 : decode c1' 9 = .ok (.return_, 1) := by decide +kernel
theorem o_rm1_L3 (hw : o_T Z a0) (Z0 : n0 ≤ h0.size) (a_1 a_2 : Addr) (g : Nat → Int32) (u_0 u_1 : Value) (j0 : o_G Z h0) (j1 : o_E0 Z h0 a_1) (j2 : o_F2 Z h0 a_1 u_0) (j3 : o_F1 Z h0 a_1 u_1) (j4 : o_AV Z h0 a_2 .char (3 : Int32) (o_ch g)) (hle : ∀ i, i < 3 → ¬ ((255 : Int32) < (g i))) (hd_a_1_a_2 : o_df a_1 a_2) (gw_a_1 : n0 ≤ a_1) :
    M1' l Z (o_rm 3 1 3 52) #[(.ref a_1), (.ref a_2)] h0 (fun v h L => ∃ (x_0 : Addr), v = none ∧ Fr n0 L ∧ Keep h0 h [a_1] ∧ o_E0 Z h a_1 ∧ o_F2 Z h a_1 (.ref x_0) ∧ o_F1 Z h a_1 (.int 0) ∧ o_AV Z h x_0 .byte (3 : Int32) (o_by (o_fill g (fun _ => 0) 3)) ∧ (h0.size ≤ x_0)) := by
  refine o_start (plainFor_of_name o_pn2) (L0 := #[.val (.ref a_1), .val (.ref a_2)]) (fun _ => rfl) fun p e s m below meth c s₁ hx hby hml hown hnm hret hZ X0 e0 B H => ?_
  have N0 := Fr.nil n0
  have z0 : n0 ≤ h0.size := Z0
  have z1 := o_lt j1.lt
  have z2 := o_lt j4.lt
  have K0 : Keep h0 h0 [a_1] := Keep.refl h0 _
  refine xa X0 B d1_0 rfl rfl ?_
  refine xa X0 B d1_1 rfl rfl ?_
  refine xc X0 B d1_2 0 rfl ?_
  refine xa X0 B d1_3 rfl rfl ?_
  refine xl X0 B H e0 j4 d1_4 ?_
  refine xu X0 B d1_5 ?_
  refine o_csp (a := a_1) X0 B H e0 (o_rm2_L3 (n0 := n0) hw (by omega) a_1 a_2 g u_0 u_1 j0 j1 j2 j3 j4 (show ∀ i, i < 3 → ¬ ((255 : Int32) < (g i)) by first | assumption | omega | decide) hd_a_1_a_2 (by omega)) (o_h hw 7 rfl) (o_h hw 8 rfl) (o_w2 hw) (o_h hw 10 rfl) rfl rfl (lenOf o_pd4 rfl) rfl rfl (W := 0) rfl d1_6 (by decide) ?_
  rintro _ T3 L3 X3 ⟨x_4, rfl, N3q, K3q, f5, f6, f7, f8, f9⟩
  have N3 := Fr.app N0 N3q
  have z10 := K3q.1
  have K3 := K0.trans K3q (allS (Or.inl o_m0) all0)
  have z11 := o_lt f5.lt
  have z12 := o_lt f8.lt
  exact o_retV X3 B hret d1_9 (by decide) rfl ⟨x_4, rfl, N3, K3, f5, f6, f7, f8, (by omega)⟩
theorem d42_0 : decode c42' 0 = .ok (.iload_n 0, 1) := by decide +kernel
theorem d42_1 : decode c42' 1 = .ok (.ifCond .ge 11, 3) := by decide +kernel
theorem d42_12 : decode c42' 12 = .ok (.iload_n 0, 1) := by decide +kernel
theorem d42_13 : decode c42' 13 = .ok (.ldc 20, 2) := by decide +kernel
theorem d42_15 : decode c42' 15 = .ok (.if_icmp .lt 40, 3) := by decide +kernel
theorem d42_55 : decode c42' 55 = .ok (.iload_n 0, 1) := by decide +kernel
theorem d42_56 : decode c42' 56 = .ok (.iconst 1, 1) := by decide +kernel
theorem d42_57 : decode c42' 57 = .ok (.ishl, 1) := by decide +kernel
theorem d42_58 : decode c42' 58 = .ok (.ireturn, 1) := by decide +kernel
theorem o_rm42_s1 (hw : o_T Z a0) (Z0 : n0 ≤ h0.size) :
    M42' l Z (o_rm 0 0 0 0) #[(.int 3)] h0 (fun v h L => v = some (.int 6) ∧ Fr n0 L ∧ h = h0) := by
  refine o_start (plainFor_of_name o_pn0) (L0 := #[.val (.int 3)]) (fun _ => rfl) fun p e s m below meth c s₁ hx hby hml hown hnm hret hZ X0 e0 B H => ?_
  have N0 := Fr.nil n0
  have z0 : n0 ≤ h0.size := Z0
  refine xi X0 B d42_0 rfl ?_
  have hc1 : ¬ ((3 : Int32) < 0) := by decide
  refine xy X0 B 1 12 rfl d42_1 (XT.i0_ge_t hc1) (by decide) ?_
  refine xi X0 B d42_12 rfl ?_
  refine o_go (fun _ k => X0.ldcInt hx hown (mvT hZ (o_h hw 230 rfl)) (g := (mkF m 13 #[.val (.int 3)] [(.int 3)])) rfl (hb hby d42_13) _ k) ?_
  show o_Go _ _ _ _ s₁ (mkF m 15 #[.val (.int 3)] [(.int 1073741823), (.int 3)])
  have hc2 : (3 : Int32) < (1073741823 : Int32) := by decide
  refine xM X0 B 15 55 rfl d42_15 (XT.ii_lt_t hc2) (by decide) ?_
  refine xi X0 B d42_55 rfl ?_
  refine xc X0 B d42_56 1 rfl ?_
  refine xshl X0 B d42_57 (6) rfl ?_
  exact o_retI X0 B hret (Or.inl rfl) rfl d42_58 (by decide) e0 ⟨rfl, N0, rfl⟩
theorem d41_0 : decode c41' 0 = .ok (.iload_n 0, 1) := by decide +kernel
theorem d41_1 : decode c41' 1 = .ok (.invokestatic 11, 3) := by decide +kernel
theorem d41_4 : decode c41' 4 = .ok (.newarray .byte, 2) := by decide +kernel
theorem d41_6 : decode c41' 6 = .ok (.areturn, 1) := by decide +kernel
theorem o_rm41_s1 (hw : o_T Z a0) (Z0 : n0 ≤ h0.size) :
    M41' l Z (o_rm 1 1 6 12) #[(.int 3)] h0 (fun v h L => ∃ (x_0 : Addr), v = some (.ref x_0) ∧ Fr n0 L ∧ Keep h0 h [] ∧ o_AV Z h x_0 .byte (6 : Int32) (o_by (fun _ => 0)) ∧ (h0.size ≤ x_0)) := by
  refine o_start (plainFor_of_name o_pn0) (L0 := #[.val (.int 3)]) (fun _ => rfl) fun p e s m below meth c s₁ hx hby hml hown hnm hret hZ X0 e0 B H => ?_
  have N0 := Fr.nil n0
  have z0 : n0 ≤ h0.size := Z0
  have K0 : Keep h0 h0 [] := Keep.refl h0 _
  refine xi X0 B d41_0 rfl ?_
  refine o_cst X0 B H e0 (o_rm42_s1 (n0 := n0) hw (by omega)   ) (o_h hw 227 rfl) (o_h hw 228 rfl) (o_w213 hw) (o_h hw 229 rfl) rfl (lenOf o_pd5 rfl) rfl rfl (W := 0) rfl d41_1 (by decide) ?_
  rintro _ T1 L1 X1 ⟨rfl, N1q, e1⟩
  have N1 := Fr.app N0 N1q
  obtain ⟨T2, h2, k2, X2, e2, E2, A2, st2⟩ := newP X1 hx hZ (hw _ (List.mem_of_getElem? (i := 15) rfl)) e1 (g := (mkF m 4 #[.val (.int 3)] [(.int 6)])) rfl (hb hby d41_4) rfl (by decide) (cap := 6) (by decide) (by decide) (by decide) (by decide)
  obtain ⟨b2, g2⟩ : ∃ z, z = h0.size := ⟨_, rfl⟩
  rw [← g2] at A2 st2
  have z3 := E2.1
  have lt_b2 := o_lt A2.lt
  have K2 := K0.ext E2
  have V_b2 : o_AV Z h2 b2 .byte (6 : Int32) (o_by (fun _ => 0)) := o_AV.congr (o_AV.new A2 (by decide)) fun i _ => (o_by0 i).symm
  refine o_go st2 ?_
  exact o_retA X2 B hret rfl rfl rfl d41_6 (by decide) e2 ⟨b2, rfl, N1, K2, V_b2, (by omega)⟩
theorem d40_0 : decode c40' 0 = .ok (.iload_n 2, 1) := by decide +kernel
theorem d40_1 : decode c40' 1 = .ok (.invokestatic 107, 3) := by decide +kernel
theorem d40_4 : decode c40' 4 = .ok (.astore_n 3, 1) := by decide +kernel
theorem d40_5 : decode c40' 5 = .ok (.iconst 0, 1) := by decide +kernel
theorem d40_6 : decode c40' 6 = .ok (.istore 4, 2) := by decide +kernel
theorem d40_8 : decode c40' 8 = .ok (.iload 4, 2) := by decide +kernel
theorem d40_10 : decode c40' 10 = .ok (.iload_n 2, 1) := by decide +kernel
theorem d40_11 : decode c40' 11 = .ok (.if_icmp .ge 21, 3) := by decide +kernel
theorem d40_14 : decode c40' 14 = .ok (.aload_n 3, 1) := by decide +kernel
theorem d40_15 : decode c40' 15 = .ok (.iload 4, 2) := by decide +kernel
theorem d40_17 : decode c40' 17 = .ok (.aload_n 0, 1) := by decide +kernel
theorem d40_18 : decode c40' 18 = .ok (.iload_n 1, 1) := by decide +kernel
theorem d40_19 : decode c40' 19 = .ok (.caload, 1) := by decide +kernel
theorem d40_20 : decode c40' 20 = .ok (.invokestatic 111, 3) := by decide +kernel
theorem d40_23 : decode c40' 23 = .ok (.iinc 1 1, 3) := by decide +kernel
theorem d40_26 : decode c40' 26 = .ok (.iinc 4 1, 3) := by decide +kernel
theorem d40_29 : decode c40' 29 = .ok (.goto (-21), 3) := by decide +kernel
theorem d40_32 : decode c40' 32 = .ok (.aload_n 3, 1) := by decide +kernel
theorem d40_33 : decode c40' 33 = .ok (.areturn, 1) := by decide +kernel
theorem o_t40_s1_0 (i8 : Nat) (hlt8 : i8 < 3) : (Int32.ofNat i8) < (3 : Int32) := by
  exact (o_ixb (n := 3) hlt8 (by decide)).2
theorem o_t40_s1_1   : ¬ ((Int32.ofNat 3) < (3 : Int32)) := by
  decide
theorem o_rm40_s1 (hw : o_T Z a0) (Z0 : n0 ≤ h0.size) (a_1 : Addr) (fa_a_1 : Nat → Int32) (j0 : o_AV Z h0 a_1 .char (3 : Int32) (o_ch fa_a_1)) (j1 : o_G Z h0) :
    M40' l Z (o_rm 2 1 6 24) #[(.ref a_1), (.int 0), (.int 3)] h0 (fun v h L => ∃ (x_0 : Addr), v = some (.ref x_0) ∧ Fr n0 L ∧ Keep h0 h [] ∧ o_AV Z h x_0 .byte (6 : Int32) (o_by (o_fill2 fa_a_1 (fun _ => 0) 3)) ∧ (h0.size ≤ x_0)) := by
  refine o_start (plainFor_of_name o_pn0) (L0 := #[.val (.ref a_1), .val (.int 0), .val (.int 3), .unset, .unset]) (fun _ => rfl) fun p e s m below meth c s₁ hx hby hml hown hnm hret hZ X0 e0 B H => ?_
  have N0 := Fr.nil n0
  have z0 : n0 ≤ h0.size := Z0
  have z1 := o_lt j0.lt
  have K0 : Keep h0 h0 [] := Keep.refl h0 _
  refine xi X0 B d40_0 rfl ?_
  refine o_cst X0 B H e0 (o_rm41_s1 (n0 := n0) hw (by omega)   ) (o_h hw 224 rfl) (o_h hw 225 rfl) (o_w213 hw) (o_h hw 226 rfl) rfl (lenOf o_pd6 rfl) rfl rfl (W := 0) rfl d40_1 (by decide) ?_
  rintro _ T2 L2 X2 ⟨x_3, rfl, N2q, K2q, f4, f5⟩
  have N2 := Fr.app N0 N2q
  have z6 := K2q.1
  have K2 := K0.trans K2q all0
  have z7 := o_lt f4.lt
  refine xt X2 B d40_4 rfl (l' := #[.val (.ref a_1), .val (.int 0), .val (.int 3), .val (.ref x_3), .unset]) rfl ?_
  refine xc X2 B d40_5 0 rfl ?_
  refine xS X2 B d40_6 (l' := #[.val (.ref a_1), .val (.int 0), .val (.int 3), .val (.ref x_3), .val (.int 0)]) rfl ?_
  have f9 := (j0.keep K2q nin0)
  have f10 := (j1.keep K2q all0)
  refine o_loop (n := 3) (Inv := fun iI TI gI => ∃ (LI : List Loc) (hI : Heap), Stand p l e (o_rm 2 1 6 24) s m #[(.ref a_1), (.int 0), (.int 3)] below meth c TI LI 1 6 ∧ TI.heap = hI ∧ Fr n0 LI ∧ Keep h0 hI [] ∧ o_AV Z hI a_1 .char (3 : Int32) (o_ch fa_a_1) ∧ o_G Z hI ∧ o_AV Z hI x_3 .byte (6 : Int32) (o_by (o_fill2 fa_a_1 (fun _ => 0) iI)) ∧ gI = mkF m 8 #[.val (.ref a_1), .val (.int (Int32.ofNat iI)), .val (.int 3), .val (.ref x_3), .val (.int (Int32.ofNat iI))] []) ?_ ?_ ⟨_, T2.heap, X2, rfl, N2, K2, f9, f10, (by rw [o_fill2_0]; exact f4), rfl⟩
  · rintro i8 T8a g8a hlt8 ⟨L8a, h8a, X8a, e8a, N8a, K8a, f8a_0, f8a_1, f8a_2, rfl⟩ ag8
    have z11 := K8a.1
    have z12 := o_lt f8a_0.lt
    have z13 := o_lt f8a_2.lt
    show o_Go _ _ _ _ T8a (mkF m 8 #[.val (.ref a_1), .val (.int (Int32.ofNat i8)), .val (.int 3), .val (.ref x_3), .val (.int (Int32.ofNat i8))] [])
    refine xI X8a B d40_8 rfl ?_
    refine xi X8a B d40_10 rfl ?_
    have hc14 : (Int32.ofNat i8) < (3 : Int32) := o_t40_s1_0 i8 hlt8
    refine xm X8a B d40_11 (XT.ii_ge_f hc14) ?_
    refine xa X8a B d40_14 rfl rfl ?_
    refine xI X8a B d40_15 rfl ?_
    refine xa X8a B d40_17 rfl rfl ?_
    refine xi X8a B d40_18 rfl ?_
    obtain ⟨q15, c15, R15, s15, t15⟩ := id f8a_0
    have hin15 : ¬ ((Int32.ofNat i8) < 0 ∨ c15.slots.size ≤ ((Int32.ofNat i8)).toNatClampNeg) := inb_of s15 (o_ixb (z := (3 : Int32)) (n := 3) (by omega) (by decide))
    have u15 : c15.slots[((Int32.ofNat i8)).toNatClampNeg]? = some (.int (fa_a_1 i8)) := o_at (k := i8) t15 s15 hin15 (o_tn (by omega)) (rfl)
    refine o_go (fun _ k => X8a.caload hx (j := (Int32.ofNat i8)) (v := (.int (fa_a_1 i8))) (by rw [e8a]; exact R15.1) (State.isArrayOf_alike hZ.alike R15.2.1) R15.2.2 hin15 u15 (g := (mkF m 19 #[.val (.ref a_1), .val (.int (Int32.ofNat i8)), .val (.int 3), .val (.ref x_3), .val (.int (Int32.ofNat i8))] [(.int (Int32.ofNat i8)), (.ref a_1), (.int (Int32.ofNat i8)), (.ref x_3)])) rfl rfl (hb hby d40_19) _ k) ?_
    show o_Go _ _ _ _ T8a (mkF m 20 #[.val (.ref a_1), .val (.int (Int32.ofNat i8)), .val (.int 3), .val (.ref x_3), .val (.int (Int32.ofNat i8))] [(.int (fa_a_1 i8)), (.int (Int32.ofNat i8)), (.ref x_3)])
    refine o_cst X8a B H e8a (o_rm43 (n0 := n0) hw (by omega) x_3 (Int32.ofNat i8) (fa_a_1 i8) (o_fill2 fa_a_1 (fun _ => 0) i8) (6 : Int32) i8 f8a_1 f8a_2 rfl (o_hb (n := 6) (by decide) (by omega)) (by omega)) (o_h hw 231 rfl) (o_h hw 232 rfl) (o_w213 hw) (o_h hw 233 rfl) rfl (lenOf o_pd7 rfl) rfl rfl (W := 0) rfl d40_20 (by decide) ?_
    rintro _ T16 L16 X16 ⟨rfl, N16q, K16q, f17⟩
    have N16 := Fr.app N8a N16q
    have z18 := K16q.1
    have K16 := K8a.trans K16q (allS (Or.inr (by omega)) all0)
    have z19 := o_lt f17.lt
    refine o_go (fun _ k => XS.iinc X16.here hx rfl (hb hby d40_23) rfl (l' := #[.val (.ref a_1), .val (.int ((Int32.ofNat i8) + (1 : Int32))), .val (.int 3), .val (.ref x_3), .val (.int (Int32.ofNat i8))]) rfl k) ?_
    show o_Go _ _ _ _ T16 (mkF m 26 #[.val (.ref a_1), .val (.int ((Int32.ofNat i8) + (1 : Int32))), .val (.int 3), .val (.ref x_3), .val (.int (Int32.ofNat i8))] [])
    rw [o_inc]
    show o_Go _ _ _ _ T16 (mkF m 26 #[.val (.ref a_1), .val (.int (Int32.ofNat (i8 + 1))), .val (.int 3), .val (.ref x_3), .val (.int (Int32.ofNat i8))] [])
    refine o_go (fun _ k => XS.iinc X16.here hx rfl (hb hby d40_26) rfl (l' := #[.val (.ref a_1), .val (.int (Int32.ofNat (i8 + 1))), .val (.int 3), .val (.ref x_3), .val (.int ((Int32.ofNat i8) + (1 : Int32)))]) rfl k) ?_
    show o_Go _ _ _ _ T16 (mkF m 29 #[.val (.ref a_1), .val (.int (Int32.ofNat (i8 + 1))), .val (.int 3), .val (.ref x_3), .val (.int ((Int32.ofNat i8) + (1 : Int32)))] [])
    rw [o_inc]
    show o_Go _ _ _ _ T16 (mkF m 29 #[.val (.ref a_1), .val (.int (Int32.ofNat (i8 + 1))), .val (.int 3), .val (.ref x_3), .val (.int (Int32.ofNat (i8 + 1)))] [])
    refine xg X16 B 29 8 rfl d40_29 (by decide) ?_
    have f20 := (f8a_0.keep K16q (ninS (o_ne (by omega)) nin0))
    have f21 := (f8a_1.keep K16q (allS (o_AV.plain f8a_2) all0))
    exact ag8 _ _ ⟨_, T16.heap, X16, rfl, N16, K16, f20, f21, (by rw [← o_fill2_s]; exact f17), rfl⟩
  · rintro T8b g8b ⟨L8b, h8b, X8b, e8b, N8b, K8b, f8b_0, f8b_1, f8b_2, rfl⟩
    have z22 := K8b.1
    have z23 := o_lt f8b_0.lt
    have z24 := o_lt f8b_2.lt
    show o_Go _ _ _ _ T8b (mkF m 8 #[.val (.ref a_1), .val (.int (Int32.ofNat 3)), .val (.int 3), .val (.ref x_3), .val (.int (Int32.ofNat 3))] [])
    refine xI X8b B d40_8 rfl ?_
    refine xi X8b B d40_10 rfl ?_
    have hc25 : ¬ ((Int32.ofNat 3) < (3 : Int32)) := o_t40_s1_1  
    refine xM X8b B 11 32 rfl d40_11 (XT.ii_ge_t hc25) (by decide) ?_
    refine xa X8b B d40_32 rfl rfl ?_
    exact o_retA X8b B hret rfl rfl rfl d40_33 (by decide) e8b ⟨x_3, rfl, N8b, K8b, f8b_2, (by omega)⟩
theorem d37_20 : decode c37' 20 = .ok (.aload_n 0, 1) := by decide +kernel
theorem d37_21 : decode c37' 21 = .ok (.iload_n 1, 1) := by decide +kernel
theorem d37_22 : decode c37' 22 = .ok (.iload_n 2, 1) := by decide +kernel
theorem d37_23 : decode c37' 23 = .ok (.invokestatic 119, 3) := by decide +kernel
theorem d37_26 : decode c37' 26 = .ok (.astore 5, 2) := by decide +kernel
theorem d37_28 : decode c37' 28 = .ok (.aload 5, 2) := by decide +kernel
theorem d37_30 : decode c37' 30 = .ok (.iload 4, 2) := by decide +kernel
theorem d37_32 : decode c37' 32 = .ok (.invokestatic 71, 3) := by decide +kernel
theorem d37_35 : decode c37' 35 = .ok (.sipush 255, 3) := by decide +kernel
theorem d37_38 : decode c37' 38 = .ok (.if_icmp .gt 16, 3) := by decide +kernel
theorem d37_54 : decode c37' 54 = .ok (.aload 5, 2) := by decide +kernel
theorem d37_56 : decode c37' 56 = .ok (.areturn, 1) := by decide +kernel
theorem o_t37_U3_0 (g : Nat → Int32) (kk : Nat) (hle : ∀ i, i < kk → ¬ ((255 : Int32) < (g i))) (hwt : (255 : Int32) < (g kk)) (hkn : kk < 3) (hchr : (g kk).toUInt32.toUInt16.toUInt32.toInt32 = g kk) : ¬ ((Int32.ofNat kk) = (3 : Int32)) := by
  exact o_nek hkn (by decide)
theorem o_t37_U3_1 (g : Nat → Int32) (kk : Nat) (hle : ∀ i, i < kk → ¬ ((255 : Int32) < (g i))) (hwt : (255 : Int32) < (g kk)) (hkn : kk < 3) (hchr : (g kk).toUInt32.toUInt16.toUInt32.toInt32 = g kk) (hc9 : ¬ ((Int32.ofNat kk) = (3 : Int32))) : (255 : Int32) < (o_gc (o_fill2 g (fun _ => 0) 3) kk) := by
  rw [o_gcf _ _ hkn, hchr]; exact hwt
theorem o_rm37_U3 (hw : o_T Z a0) (Z0 : n0 ≤ h0.size) (a_1 : Addr) (g : Nat → Int32) (kk : Nat) (j0 : o_G Z h0) (j1 : o_AV Z h0 a_1 .char (3 : Int32) (o_ch g)) (hle : ∀ i, i < kk → ¬ ((255 : Int32) < (g i))) (hwt : (255 : Int32) < (g kk)) (hkn : kk < 3) (hchr : (g kk).toUInt32.toUInt16.toUInt32.toInt32 = g kk) :
    M37' l Z (o_rm 3 2 9 40) #[(.ref a_1), (.int 0), (.int 3)] h0 (fun v h L => ∃ (x_0 : Addr), v = some (.ref x_0) ∧ Fr n0 L ∧ Keep h0 h [] ∧ o_AV Z h x_0 .byte (6 : Int32) (o_by (o_fill2 g (fun _ => 0) 3)) ∧ (h0.size ≤ x_0)) := by
  refine o_start (plainFor_of_name o_pn0) (L0 := #[.val (.ref a_1), .val (.int 0), .val (.int 3), .unset, .unset, .unset]) (fun _ => rfl) fun p e s m below meth c s₁ hx hby hml hown hnm hret hZ X0 e0 B H => ?_
  have N0 := Fr.nil n0
  have z0 : n0 ≤ h0.size := Z0
  have z1 := o_lt j1.lt
  have K0 : Keep h0 h0 [] := Keep.refl h0 _
  refine xi X0 B d37_0 rfl ?_
  obtain ⟨T2, h2, k2, X2, e2, E2, A2, st2⟩ := newP X0 hx hZ (hw _ (List.mem_of_getElem? (i := 15) rfl)) e0 (g := (mkF m 1 #[.val (.ref a_1), .val (.int 0), .val (.int 3), .unset, .unset, .unset] [(.int 3)])) rfl (hb hby d37_1) rfl (by decide) (cap := 3) (by decide) (by decide) (by decide) (by decide)
  obtain ⟨b2, g2⟩ : ∃ z, z = h0.size := ⟨_, rfl⟩
  rw [← g2] at A2 st2
  have z3 := E2.1
  have lt_b2 := o_lt A2.lt
  have K2 := K0.ext E2
  have V_b2 : o_AV Z h2 b2 .byte (3 : Int32) (o_by (fun _ => 0)) := o_AV.congr (o_AV.new A2 (by decide)) fun i _ => (o_by0 i).symm
  refine o_go st2 ?_
  refine xt X2 B d37_3 rfl (l' := #[.val (.ref a_1), .val (.int 0), .val (.int 3), .val (.ref b2), .unset, .unset]) rfl ?_
  refine xa X2 B d37_4 rfl rfl ?_
  refine xi X2 B d37_5 rfl ?_
  refine xa X2 B d37_6 rfl rfl ?_
  refine xc X2 B d37_7 0 rfl ?_
  refine xi X2 B d37_8 rfl ?_
  have f4 := (j1.ext E2)
  refine o_cst X2 B H e2 (o_rm38 (n0 := n0) hw (by omega) a_1 b2 (3 : Int32) g (fun _ => 0) kk f4 V_b2 hle (o_hbl (n := 3) (by decide) (by omega)) (fun _ => hwt) (o_ne (by omega)) (by decide) (by omega) (by omega)) (o_h hw 215 rfl) (o_h hw 216 rfl) (o_w213 hw) (o_h hw 217 rfl) rfl (lenOf o_pd1 rfl) rfl rfl (W := 0) rfl d37_9 (by decide) ?_
  rintro _ T5 L5 X5 ⟨rfl, N5q, K5q, f6⟩
  have N5 := Fr.app N0 N5q
  have z7 := K5q.1
  have K5 := K2.trans K5q (allS (Or.inr (by omega)) all0)
  have z8 := o_lt f6.lt
  refine xS X5 B d37_12 (l' := #[.val (.ref a_1), .val (.int 0), .val (.int 3), .val (.ref b2), .val (.int (Int32.ofNat kk)), .unset]) rfl ?_
  refine xI X5 B d37_14 rfl ?_
  refine xi X5 B d37_16 rfl ?_
  have hc9 : ¬ ((Int32.ofNat kk) = (3 : Int32)) := o_t37_U3_0 g kk hle hwt hkn hchr
  refine xm X5 B d37_17 (XT.ii_eq_f hc9) ?_
  refine xa X5 B d37_20 rfl rfl ?_
  refine xi X5 B d37_21 rfl ?_
  refine xi X5 B d37_22 rfl ?_
  have f10 := (f4.keep K5q (ninS (o_ne (by omega)) nin0))
  have f11 := ((j0.ext E2).keep K5q (allS (o_AV.plain V_b2) all0))
  refine o_cst X5 B H rfl (o_rm40_s1 (n0 := n0) hw (by omega) a_1 g f10 f11) (o_h hw 221 rfl) (o_h hw 222 rfl) (o_w213 hw) (o_h hw 223 rfl) rfl (lenOf o_pd2 rfl) rfl rfl (W := 0) rfl d37_23 (by decide) ?_
  rintro _ T12 L12 X12 ⟨x_13, rfl, N12q, K12q, f14, f15⟩
  have N12 := Fr.app N5 N12q
  have z16 := K12q.1
  have K12 := K5.trans K12q all0
  have z17 := o_lt f14.lt
  refine xT X12 B d37_26 rfl (l' := #[.val (.ref a_1), .val (.int 0), .val (.int 3), .val (.ref b2), .val (.int (Int32.ofNat kk)), .val (.ref x_13)]) rfl ?_
  refine xA X12 B d37_28 rfl rfl ?_
  refine xI X12 B d37_30 rfl ?_
  have f18 := (f11.keep K12q all0)
  refine o_cst X12 B H rfl (o_rm44 (n0 := n0) hw (by omega) x_13 (Int32.ofNat kk) (o_fill2 g (fun _ => 0) 3) (6 : Int32) kk f18 f14 rfl (o_hb (n := 6) (by decide) (by omega))) (o_h hw 237 rfl) (o_h hw 238 rfl) (o_w213 hw) (o_h hw 239 rfl) rfl (lenOf o_pd8 rfl) rfl rfl (W := 0) rfl d37_32 (by decide) ?_
  rintro _ T19 L19 X19 ⟨rfl, N19q, e19⟩
  have N19 := Fr.app N12 N19q
  refine xh X19 B d37_35 255 rfl ?_
  have hc20 : (255 : Int32) < (o_gc (o_fill2 g (fun _ => 0) 3) kk) := o_t37_U3_1 g kk hle hwt hkn hchr hc9
  refine xM X19 B 38 54 rfl d37_38 (XT.ii_gt_t hc20) (by decide) ?_
  refine xA X19 B d37_54 rfl rfl ?_
  exact o_retA X19 B hret rfl rfl rfl d37_56 (by decide) e19 ⟨x_13, rfl, N19, K12, f14, (by omega)⟩
theorem o_rm39_s2 (hw : o_T Z a0) (Z0 : n0 ≤ h0.size) (a_1 : Addr) (fa_a_1 : Nat → Int32) (j0 : o_AV Z h0 a_1 .byte (6 : Int32) (o_by fa_a_1)) :
    M39' l Z (o_rm 0 0 0 0) #[(.ref a_1), (.int 3)] h0 (fun v h L => v = some (.int 1) ∧ Fr n0 L ∧ h = h0) := by
  refine o_start (plainFor_of_name o_pn0) (L0 := #[.val (.ref a_1), .val (.int 3)]) (fun _ => rfl) fun p e s m below meth c s₁ hx hby hml hown hnm hret hZ X0 e0 B H => ?_
  have N0 := Fr.nil n0
  have z0 : n0 ≤ h0.size := Z0
  have z1 := o_lt j0.lt
  refine xi X0 B d39_0 rfl ?_
  refine xa X0 B d39_1 rfl rfl ?_
  refine xl X0 B H e0 j0 d39_2 ?_
  refine xsub X0 B d39_3 (-3) rfl ?_
  refine xb X0 B d39_4 31 rfl ?_
  refine o_go (fun _ k => XS.iushr X0.here hx rfl (hb hby d39_6) rfl k) ?_
  show o_Go _ _ _ _ s₁ (mkF m 7 #[.val (.ref a_1), .val (.int 3)] [(.int 1)])
  refine o_go (fun _ k => XS.i2b X0.here hx rfl (hb hby d39_7) rfl k) ?_
  show o_Go _ _ _ _ s₁ (mkF m 8 #[.val (.ref a_1), .val (.int 3)] [(.int 1)])
  exact o_retI X0 B hret (Or.inr (Or.inr (Or.inl rfl))) rfl d39_8 (by decide) e0 ⟨rfl, N0, rfl⟩
theorem o_rm2_U3 (hw : o_T Z a0) (Z0 : n0 ≤ h0.size) (a_1 a_2 : Addr) (g : Nat → Int32) (kk : Nat) (u_0 u_1 : Value) (j0 : o_G Z h0) (j1 : o_E0 Z h0 a_1) (j2 : o_F2 Z h0 a_1 u_0) (j3 : o_F1 Z h0 a_1 u_1) (j4 : o_AV Z h0 a_2 .char (3 : Int32) (o_ch g)) (hle : ∀ i, i < kk → ¬ ((255 : Int32) < (g i))) (hwt : (255 : Int32) < (g kk)) (hkn : kk < 3) (hchr : (g kk).toUInt32.toUInt16.toUInt32.toInt32 = g kk) (hd_a_1_a_2 : o_df a_1 a_2) (gw_a_1 : n0 ≤ a_1) :
    M2' l Z (o_rm 4 2 9 57) #[(.ref a_1), (.ref a_2), (.int 0), (.int 3), .null] h0 (fun v h L => ∃ (x_0 : Addr), v = none ∧ Fr n0 L ∧ Keep h0 h [a_1] ∧ o_E0 Z h a_1 ∧ o_F2 Z h a_1 (.ref x_0) ∧ o_F1 Z h a_1 (.int 1) ∧ o_AV Z h x_0 .byte (6 : Int32) (o_by (o_fill2 g (fun _ => 0) 3)) ∧ (h0.size ≤ x_0)) := by
  refine o_start (plainFor_of_name o_pn2) (L0 := #[.val (.ref a_1), .val (.ref a_2), .val (.int 0), .val (.int 3), .val .null, .unset]) (fun _ => rfl) fun p e s m below meth c s₁ hx hby hml hown hnm hret hZ X0 e0 B H => ?_
  have N0 := Fr.nil n0
  have z0 : n0 ≤ h0.size := Z0
  have z1 := o_lt j1.lt
  have z2 := o_lt j4.lt
  have K0 : Keep h0 h0 [a_1] := Keep.refl h0 _
  refine xa X0 B d2_0 rfl rfl ?_
  obtain ⟨T3, X3, e3, st3⟩ := initO X0 hx hZ hown (o_w11 hw) (o_w12 hw) (o_w13 hw) e0 (g := (mkF m 1 #[.val (.ref a_1), .val (.ref a_2), .val (.int 0), .val (.int 3), .val .null, .unset] [(.ref a_1)])) rfl (by rw [hml]; rfl) rfl (hb hby d2_1) (by decide) (W := 0) (by show 2 * 0 + _ ≤ _; exact Nat.le_of_eq rfl) (by decide)
  refine o_go st3 ?_
  refine xi X3 B d2_4 rfl ?_
  have hc4 : ¬ ((3 : Int32) = 0) := by decide
  refine xy X3 B 5 27 rfl d2_5 (XT.i0_ne_t hc4) (by decide) ?_
  refine o_gs X3 B H (o_w70 hw) e3 j0.1 d2_27 fun T5 X5 e5 => ?_
  refine xn X5 B d2_30 (XT.i0_eq_f (o_hcs j0)) ?_
  refine xa X5 B d2_33 rfl rfl ?_
  refine xi X5 B d2_34 rfl ?_
  refine xi X5 B d2_35 rfl ?_
  refine o_cst X5 B H e5 (o_rm37_U3 (n0 := n0) hw (by omega) a_2 g kk j0 j4 (show ∀ i, i < kk → ¬ ((255 : Int32) < (g i)) by first | assumption | omega | decide) (show (255 : Int32) < (g kk) by first | assumption | omega | decide) (show kk < 3 by first | assumption | omega | decide) (show (g kk).toUInt32.toUInt16.toUInt32.toInt32 = g kk by first | assumption | omega | decide)) (o_h hw 211 rfl) (o_h hw 212 rfl) (o_w213 hw) (o_h hw 214 rfl) rfl (lenOf o_pd2 rfl) rfl rfl (W := 0) rfl d2_36 (by decide) ?_
  rintro _ T7 L7 X7 ⟨x_8, rfl, N7q, K7q, f9, f10⟩
  have N7 := Fr.app N0 N7q
  have z11 := K7q.1
  have K7 := K0.trans K7q all0
  have z12 := o_lt f9.lt
  refine xT X7 B d2_39 rfl (l' := #[.val (.ref a_1), .val (.ref a_2), .val (.int 0), .val (.int 3), .val .null, .val (.ref x_8)]) rfl ?_
  refine xa X7 B d2_41 rfl rfl ?_
  refine xA X7 B d2_42 rfl rfl ?_
  refine xi X7 B d2_44 rfl ?_
  refine o_cst X7 B H rfl (o_rm39_s2 (n0 := n0) hw (by omega) x_8 (o_fill2 g (fun _ => 0) 3) f9) (o_h hw 218 rfl) (o_h hw 219 rfl) (o_w213 hw) (o_h hw 220 rfl) rfl (lenOf o_pd3 rfl) rfl rfl (W := 1) rfl d2_45 (by decide) ?_
  rintro _ T13 L13 X13 ⟨rfl, N13q, e13⟩
  have N13 := Fr.app N7 N13q
  have f14 := (j1.keep K7q)
  have f15 := (j3.keep K7q nin0)
  obtain ⟨T16, h16, X16, e16, W16, st16⟩ := putFN X13 hx hZ hown (o_w21 hw) Via.refl e13 f15 f14 (Or.inr ⟨(o_w17 hw), rfl, hnm⟩) (o_w1 hw) (ty := .byte) (v' := .int 1) (by decide) (rfl) (fits_nar_byte (1 : Int32)) (g := (mkF m 48 #[.val (.ref a_1), .val (.ref a_2), .val (.int 0), .val (.int 3), .val .null, .val (.ref x_8)] [(.int 1), (.ref a_1)])) rfl rfl (hb hby d2_48)
  have z17 := W16.size
  have K16 := K7.wr W16 (Or.inl o_m0)
  have N16 := Fr.snoc X16 N13 (by omega : n0 ≤ a_1)
  have Fw16 : o_F1 Z h16 a_1 (.int 1) := Fld.same W16 f15
  refine o_go st16 ?_
  refine xa X16 B d2_51 rfl rfl ?_
  refine xA X16 B d2_52 rfl rfl ?_
  have f18 := (f14.wr W16)
  have f19 := ((j2.keep K7q nin0).other W16 (Or.inr (slot_ne (Or.inr (o_w16 hw)) (Or.inr (o_w17 hw)) (by decide) (t := (.array .byte)) (t' := .byte) (by decide) (by decide))))
  obtain ⟨T20, h20, X20, e20, W20, st20⟩ := putF X16 hx hZ hown (host := "") (Or.inl (o_w20 hw)) Via.refl e16 f19 f18 (Or.inr ⟨(o_w16 hw), rfl, hnm⟩) (o_w1 hw) (ty := (.array .byte)) (by decide) rfl rfl (g := (mkF m 54 #[.val (.ref a_1), .val (.ref a_2), .val (.int 0), .val (.int 3), .val .null, .val (.ref x_8)] [(.ref x_8), (.ref a_1)])) rfl rfl (hb hby d2_54)
  have z21 := W20.size
  have K20 := K16.wr W20 (Or.inl o_m0)
  have N20 := Fr.snoc X20 N16 (by omega : n0 ≤ a_1)
  have Fw20 : o_F2 Z h20 a_1 (.ref x_8) := Fld.same W20 f19
  refine o_go st20 ?_
  have f23 := (f18.wr W20)
  have f24 := (Fw16.other W20 (Or.inr (slot_ne (Or.inr (o_w17 hw)) (Or.inr (o_w16 hw)) (by decide) (t := .byte) (t' := (.array .byte)) (by decide) (by decide))))
  have f25 := ((f9.other W16 (o_ne (by omega))).other W20 (o_ne (by omega)))
  exact o_retV X20 B hret d2_57 (by decide) e20 ⟨x_8, rfl, N20, K20, f23, Fw20, f24, f25, (by omega)⟩
theorem o_rm1_U3 (hw : o_T Z a0) (Z0 : n0 ≤ h0.size) (a_1 a_2 : Addr) (g : Nat → Int32) (kk : Nat) (u_0 u_1 : Value) (j0 : o_G Z h0) (j1 : o_E0 Z h0 a_1) (j2 : o_F2 Z h0 a_1 u_0) (j3 : o_F1 Z h0 a_1 u_1) (j4 : o_AV Z h0 a_2 .char (3 : Int32) (o_ch g)) (hle : ∀ i, i < kk → ¬ ((255 : Int32) < (g i))) (hwt : (255 : Int32) < (g kk)) (hkn : kk < 3) (hchr : (g kk).toUInt32.toUInt16.toUInt32.toInt32 = g kk) (hd_a_1_a_2 : o_df a_1 a_2) (gw_a_1 : n0 ≤ a_1) :
    M1' l Z (o_rm 5 2 9 74) #[(.ref a_1), (.ref a_2)] h0 (fun v h L => ∃ (x_0 : Addr), v = none ∧ Fr n0 L ∧ Keep h0 h [a_1] ∧ o_E0 Z h a_1 ∧ o_F2 Z h a_1 (.ref x_0) ∧ o_F1 Z h a_1 (.int 1) ∧ o_AV Z h x_0 .byte (6 : Int32) (o_by (o_fill2 g (fun _ => 0) 3)) ∧ (h0.size ≤ x_0)) := by
  refine o_start (plainFor_of_name o_pn2) (L0 := #[.val (.ref a_1), .val (.ref a_2)]) (fun _ => rfl) fun p e s m below meth c s₁ hx hby hml hown hnm hret hZ X0 e0 B H => ?_
  have N0 := Fr.nil n0
  have z0 : n0 ≤ h0.size := Z0
  have z1 := o_lt j1.lt
  have z2 := o_lt j4.lt
  have K0 : Keep h0 h0 [a_1] := Keep.refl h0 _
  refine xa X0 B d1_0 rfl rfl ?_
  refine xa X0 B d1_1 rfl rfl ?_
  refine xc X0 B d1_2 0 rfl ?_
  refine xa X0 B d1_3 rfl rfl ?_
  refine xl X0 B H e0 j4 d1_4 ?_
  refine xu X0 B d1_5 ?_
  refine o_csp (a := a_1) X0 B H e0 (o_rm2_U3 (n0 := n0) hw (by omega) a_1 a_2 g kk u_0 u_1 j0 j1 j2 j3 j4 (show ∀ i, i < kk → ¬ ((255 : Int32) < (g i)) by first | assumption | omega | decide) (show (255 : Int32) < (g kk) by first | assumption | omega | decide) (show kk < 3 by first | assumption | omega | decide) (show (g kk).toUInt32.toUInt16.toUInt32.toInt32 = g kk by first | assumption | omega | decide) hd_a_1_a_2 (by omega)) (o_h hw 7 rfl) (o_h hw 8 rfl) (o_w2 hw) (o_h hw 10 rfl) rfl rfl (lenOf o_pd4 rfl) rfl rfl (W := 0) rfl d1_6 (by decide) ?_
  rintro _ T3 L3 X3 ⟨x_4, rfl, N3q, K3q, f5, f6, f7, f8, f9⟩
  have N3 := Fr.app N0 N3q
  have z10 := K3q.1
  have K3 := K0.trans K3q (allS (Or.inl o_m0) all0)
  have z11 := o_lt f5.lt
  have z12 := o_lt f8.lt
  exact o_retV X3 B hret d1_9 (by decide) rfl ⟨x_4, rfl, N3, K3, f5, f6, f7, f8, (by omega)⟩
theorem o_t37_L64_0   : (Int32.ofNat 64) = (64 : Int32) := by
  decide
theorem o_rm37_L64 (hw : o_T Z a0) (Z0 : n0 ≤ h0.size) (a_1 : Addr) (g : Nat → Int32) (j0 : o_AV Z h0 a_1 .char (64 : Int32) (o_ch g)) (hle : ∀ i, i < 64 → ¬ ((255 : Int32) < (g i))) :
    M37' l Z (o_rm 1 1 64 18) #[(.ref a_1), (.int 0), (.int 64)] h0 (fun v h L => ∃ (x_0 : Addr), v = some (.ref x_0) ∧ Fr n0 L ∧ Keep h0 h [] ∧ o_AV Z h x_0 .byte (64 : Int32) (o_by (o_fill g (fun _ => 0) 64)) ∧ (h0.size ≤ x_0)) := by
  refine o_start (plainFor_of_name o_pn0) (L0 := #[.val (.ref a_1), .val (.int 0), .val (.int 64), .unset, .unset, .unset]) (fun _ => rfl) fun p e s m below meth c s₁ hx hby hml hown hnm hret hZ X0 e0 B H => ?_
  have N0 := Fr.nil n0
  have z0 : n0 ≤ h0.size := Z0
  have z1 := o_lt j0.lt
  have K0 : Keep h0 h0 [] := Keep.refl h0 _
  refine xi X0 B d37_0 rfl ?_
  obtain ⟨T2, h2, k2, X2, e2, E2, A2, st2⟩ := newP X0 hx hZ (hw _ (List.mem_of_getElem? (i := 15) rfl)) e0 (g := (mkF m 1 #[.val (.ref a_1), .val (.int 0), .val (.int 64), .unset, .unset, .unset] [(.int 64)])) rfl (hb hby d37_1) rfl (by decide) (cap := 64) (by decide) (by decide) (by decide) (by decide)
  obtain ⟨b2, g2⟩ : ∃ z, z = h0.size := ⟨_, rfl⟩
  rw [← g2] at A2 st2
  have z3 := E2.1
  have lt_b2 := o_lt A2.lt
  have K2 := K0.ext E2
  have V_b2 : o_AV Z h2 b2 .byte (64 : Int32) (o_by (fun _ => 0)) := o_AV.congr (o_AV.new A2 (by decide)) fun i _ => (o_by0 i).symm
  refine o_go st2 ?_
  refine xt X2 B d37_3 rfl (l' := #[.val (.ref a_1), .val (.int 0), .val (.int 64), .val (.ref b2), .unset, .unset]) rfl ?_
  refine xa X2 B d37_4 rfl rfl ?_
  refine xi X2 B d37_5 rfl ?_
  refine xa X2 B d37_6 rfl rfl ?_
  refine xc X2 B d37_7 0 rfl ?_
  refine xi X2 B d37_8 rfl ?_
  have f4 := (j0.ext E2)
  refine o_cst X2 B H e2 (o_rm38 (n0 := n0) hw (by omega) a_1 b2 (64 : Int32) g (fun _ => 0) 64 f4 V_b2 hle (by decide) (fun q => absurd q (by decide)) (o_ne (by omega)) (by decide) (by decide) (by omega)) (o_h hw 215 rfl) (o_h hw 216 rfl) (o_w213 hw) (o_h hw 217 rfl) rfl (lenOf o_pd1 rfl) rfl rfl (W := 0) rfl d37_9 (by decide) ?_
  rintro _ T5 L5 X5 ⟨rfl, N5q, K5q, f6⟩
  have N5 := Fr.app N0 N5q
  have z7 := K5q.1
  have K5 := K2.trans K5q (allS (Or.inr (by omega)) all0)
  have z8 := o_lt f6.lt
  refine xS X5 B d37_12 (l' := #[.val (.ref a_1), .val (.int 0), .val (.int 64), .val (.ref b2), .val (.int (Int32.ofNat 64)), .unset]) rfl ?_
  refine xI X5 B d37_14 rfl ?_
  refine xi X5 B d37_16 rfl ?_
  have hc9 : (Int32.ofNat 64) = (64 : Int32) := o_t37_L64_0  
  refine xM X5 B 17 57 rfl d37_17 (XT.ii_eq_t hc9) (by decide) ?_
  refine xa X5 B d37_57 rfl rfl ?_
  exact o_retA X5 B hret rfl rfl rfl d37_58 (by decide) rfl ⟨b2, rfl, N5, K5, f6, (by omega)⟩
theorem o_rm39_s3 (hw : o_T Z a0) (Z0 : n0 ≤ h0.size) (a_1 : Addr) (fa_a_1 : Nat → Int32) (j0 : o_AV Z h0 a_1 .byte (64 : Int32) (o_by fa_a_1)) :
    M39' l Z (o_rm 0 0 0 0) #[(.ref a_1), (.int 64)] h0 (fun v h L => v = some (.int 0) ∧ Fr n0 L ∧ h = h0) := by
  refine o_start (plainFor_of_name o_pn0) (L0 := #[.val (.ref a_1), .val (.int 64)]) (fun _ => rfl) fun p e s m below meth c s₁ hx hby hml hown hnm hret hZ X0 e0 B H => ?_
  have N0 := Fr.nil n0
  have z0 : n0 ≤ h0.size := Z0
  have z1 := o_lt j0.lt
  refine xi X0 B d39_0 rfl ?_
  refine xa X0 B d39_1 rfl rfl ?_
  refine xl X0 B H e0 j0 d39_2 ?_
  refine xsub X0 B d39_3 (0) rfl ?_
  refine xb X0 B d39_4 31 rfl ?_
  refine o_go (fun _ k => XS.iushr X0.here hx rfl (hb hby d39_6) rfl k) ?_
  show o_Go _ _ _ _ s₁ (mkF m 7 #[.val (.ref a_1), .val (.int 64)] [(.int 0)])
  refine o_go (fun _ k => XS.i2b X0.here hx rfl (hb hby d39_7) rfl k) ?_
  show o_Go _ _ _ _ s₁ (mkF m 8 #[.val (.ref a_1), .val (.int 64)] [(.int 0)])
  exact o_retI X0 B hret (Or.inr (Or.inr (Or.inl rfl))) rfl d39_8 (by decide) e0 ⟨rfl, N0, rfl⟩
theorem o_rm2_L64 (hw : o_T Z a0) (Z0 : n0 ≤ h0.size) (a_1 a_2 : Addr) (g : Nat → Int32) (u_0 u_1 : Value) (j0 : o_G Z h0) (j1 : o_E0 Z h0 a_1) (j2 : o_F2 Z h0 a_1 u_0) (j3 : o_F1 Z h0 a_1 u_1) (j4 : o_AV Z h0 a_2 .char (64 : Int32) (o_ch g)) (hle : ∀ i, i < 64 → ¬ ((255 : Int32) < (g i))) (hd_a_1_a_2 : o_df a_1 a_2) (gw_a_1 : n0 ≤ a_1) :
    M2' l Z (o_rm 2 1 64 35) #[(.ref a_1), (.ref a_2), (.int 0), (.int 64), .null] h0 (fun v h L => ∃ (x_0 : Addr), v = none ∧ Fr n0 L ∧ Keep h0 h [a_1] ∧ o_E0 Z h a_1 ∧ o_F2 Z h a_1 (.ref x_0) ∧ o_F1 Z h a_1 (.int 0) ∧ o_AV Z h x_0 .byte (64 : Int32) (o_by (o_fill g (fun _ => 0) 64)) ∧ (h0.size ≤ x_0)) := by
  refine o_start (plainFor_of_name o_pn2) (L0 := #[.val (.ref a_1), .val (.ref a_2), .val (.int 0), .val (.int 64), .val .null, .unset]) (fun _ => rfl) fun p e s m below meth c s₁ hx hby hml hown hnm hret hZ X0 e0 B H => ?_
  have N0 := Fr.nil n0
  have z0 : n0 ≤ h0.size := Z0
  have z1 := o_lt j1.lt
  have z2 := o_lt j4.lt
  have K0 : Keep h0 h0 [a_1] := Keep.refl h0 _
  refine xa X0 B d2_0 rfl rfl ?_
  obtain ⟨T3, X3, e3, st3⟩ := initO X0 hx hZ hown (o_w11 hw) (o_w12 hw) (o_w13 hw) e0 (g := (mkF m 1 #[.val (.ref a_1), .val (.ref a_2), .val (.int 0), .val (.int 64), .val .null, .unset] [(.ref a_1)])) rfl (by rw [hml]; rfl) rfl (hb hby d2_1) (by decide) (W := 0) (by show 2 * 0 + _ ≤ _; exact Nat.le_of_eq rfl) (by decide)
  refine o_go st3 ?_
  refine xi X3 B d2_4 rfl ?_
  have hc4 : ¬ ((64 : Int32) = 0) := by decide
  refine xy X3 B 5 27 rfl d2_5 (XT.i0_ne_t hc4) (by decide) ?_
  refine o_gs X3 B H (o_w70 hw) e3 j0.1 d2_27 fun T5 X5 e5 => ?_
  refine xn X5 B d2_30 (XT.i0_eq_f (o_hcs j0)) ?_
  refine xa X5 B d2_33 rfl rfl ?_
  refine xi X5 B d2_34 rfl ?_
  refine xi X5 B d2_35 rfl ?_
  refine o_cst X5 B H e5 (o_rm37_L64 (n0 := n0) hw (by omega) a_2 g j4 (show ∀ i, i < 64 → ¬ ((255 : Int32) < (g i)) by first | assumption | omega | decide)) (o_h hw 211 rfl) (o_h hw 212 rfl) (o_w213 hw) (o_h hw 214 rfl) rfl (lenOf o_pd2 rfl) rfl rfl (W := 0) rfl d2_36 (by decide) ?_
  rintro _ T7 L7 X7 ⟨x_8, rfl, N7q, K7q, f9, f10⟩
  have N7 := Fr.app N0 N7q
  have z11 := K7q.1
  have K7 := K0.trans K7q all0
  have z12 := o_lt f9.lt
  refine xT X7 B d2_39 rfl (l' := #[.val (.ref a_1), .val (.ref a_2), .val (.int 0), .val (.int 64), .val .null, .val (.ref x_8)]) rfl ?_
  refine xa X7 B d2_41 rfl rfl ?_
  refine xA X7 B d2_42 rfl rfl ?_
  refine xi X7 B d2_44 rfl ?_
  refine o_cst X7 B H rfl (o_rm39_s3 (n0 := n0) hw (by omega) x_8 (o_fill g (fun _ => 0) 64) f9) (o_h hw 218 rfl) (o_h hw 219 rfl) (o_w213 hw) (o_h hw 220 rfl) rfl (lenOf o_pd3 rfl) rfl rfl (W := 1) rfl d2_45 (by decide) ?_
  rintro _ T13 L13 X13 ⟨rfl, N13q, e13⟩
  have N13 := Fr.app N7 N13q
  have f14 := (j1.keep K7q)
  have f15 := (j3.keep K7q nin0)
  obtain ⟨T16, h16, X16, e16, W16, st16⟩ := putFN X13 hx hZ hown (o_w21 hw) Via.refl e13 f15 f14 (Or.inr ⟨(o_w17 hw), rfl, hnm⟩) (o_w1 hw) (ty := .byte) (v' := .int 0) (by decide) (rfl) (fits_nar_byte (0 : Int32)) (g := (mkF m 48 #[.val (.ref a_1), .val (.ref a_2), .val (.int 0), .val (.int 64), .val .null, .val (.ref x_8)] [(.int 0), (.ref a_1)])) rfl rfl (hb hby d2_48)
  have z17 := W16.size
  have K16 := K7.wr W16 (Or.inl o_m0)
  have N16 := Fr.snoc X16 N13 (by omega : n0 ≤ a_1)
  have Fw16 : o_F1 Z h16 a_1 (.int 0) := Fld.same W16 f15
  refine o_go st16 ?_
  refine xa X16 B d2_51 rfl rfl ?_
  refine xA X16 B d2_52 rfl rfl ?_
  have f18 := (f14.wr W16)
  have f19 := ((j2.keep K7q nin0).other W16 (Or.inr (slot_ne (Or.inr (o_w16 hw)) (Or.inr (o_w17 hw)) (by decide) (t := (.array .byte)) (t' := .byte) (by decide) (by decide))))
  obtain ⟨T20, h20, X20, e20, W20, st20⟩ := putF X16 hx hZ hown (host := "") (Or.inl (o_w20 hw)) Via.refl e16 f19 f18 (Or.inr ⟨(o_w16 hw), rfl, hnm⟩) (o_w1 hw) (ty := (.array .byte)) (by decide) rfl rfl (g := (mkF m 54 #[.val (.ref a_1), .val (.ref a_2), .val (.int 0), .val (.int 64), .val .null, .val (.ref x_8)] [(.ref x_8), (.ref a_1)])) rfl rfl (hb hby d2_54)
  have z21 := W20.size
  have K20 := K16.wr W20 (Or.inl o_m0)
  have N20 := Fr.snoc X20 N16 (by omega : n0 ≤ a_1)
  have Fw20 : o_F2 Z h20 a_1 (.ref x_8) := Fld.same W20 f19
  refine o_go st20 ?_
  have f23 := (f18.wr W20)
  have f24 := (Fw16.other W20 (Or.inr (slot_ne (Or.inr (o_w17 hw)) (Or.inr (o_w16 hw)) (by decide) (t := .byte) (t' := (.array .byte)) (by decide) (by decide))))
  have f25 := ((f9.other W16 (o_ne (by omega))).other W20 (o_ne (by omega)))
  exact o_retV X20 B hret d2_57 (by decide) e20 ⟨x_8, rfl, N20, K20, f23, Fw20, f24, f25, (by omega)⟩
theorem o_rm1_L64 (hw : o_T Z a0) (Z0 : n0 ≤ h0.size) (a_1 a_2 : Addr) (g : Nat → Int32) (u_0 u_1 : Value) (j0 : o_G Z h0) (j1 : o_E0 Z h0 a_1) (j2 : o_F2 Z h0 a_1 u_0) (j3 : o_F1 Z h0 a_1 u_1) (j4 : o_AV Z h0 a_2 .char (64 : Int32) (o_ch g)) (hle : ∀ i, i < 64 → ¬ ((255 : Int32) < (g i))) (hd_a_1_a_2 : o_df a_1 a_2) (gw_a_1 : n0 ≤ a_1) :
    M1' l Z (o_rm 3 1 64 52) #[(.ref a_1), (.ref a_2)] h0 (fun v h L => ∃ (x_0 : Addr), v = none ∧ Fr n0 L ∧ Keep h0 h [a_1] ∧ o_E0 Z h a_1 ∧ o_F2 Z h a_1 (.ref x_0) ∧ o_F1 Z h a_1 (.int 0) ∧ o_AV Z h x_0 .byte (64 : Int32) (o_by (o_fill g (fun _ => 0) 64)) ∧ (h0.size ≤ x_0)) := by
  refine o_start (plainFor_of_name o_pn2) (L0 := #[.val (.ref a_1), .val (.ref a_2)]) (fun _ => rfl) fun p e s m below meth c s₁ hx hby hml hown hnm hret hZ X0 e0 B H => ?_
  have N0 := Fr.nil n0
  have z0 : n0 ≤ h0.size := Z0
  have z1 := o_lt j1.lt
  have z2 := o_lt j4.lt
  have K0 : Keep h0 h0 [a_1] := Keep.refl h0 _
  refine xa X0 B d1_0 rfl rfl ?_
  refine xa X0 B d1_1 rfl rfl ?_
  refine xc X0 B d1_2 0 rfl ?_
  refine xa X0 B d1_3 rfl rfl ?_
  refine xl X0 B H e0 j4 d1_4 ?_
  refine xu X0 B d1_5 ?_
  refine o_csp (a := a_1) X0 B H e0 (o_rm2_L64 (n0 := n0) hw (by omega) a_1 a_2 g u_0 u_1 j0 j1 j2 j3 j4 (show ∀ i, i < 64 → ¬ ((255 : Int32) < (g i)) by first | assumption | omega | decide) hd_a_1_a_2 (by omega)) (o_h hw 7 rfl) (o_h hw 8 rfl) (o_w2 hw) (o_h hw 10 rfl) rfl rfl (lenOf o_pd4 rfl) rfl rfl (W := 0) rfl d1_6 (by decide) ?_
  rintro _ T3 L3 X3 ⟨x_4, rfl, N3q, K3q, f5, f6, f7, f8, f9⟩
  have N3 := Fr.app N0 N3q
  have z10 := K3q.1
  have K3 := K0.trans K3q (allS (Or.inl o_m0) all0)
  have z11 := o_lt f5.lt
  have z12 := o_lt f8.lt
  exact o_retV X3 B hret d1_9 (by decide) rfl ⟨x_4, rfl, N3, K3, f5, f6, f7, f8, (by omega)⟩
theorem o_rm42_s2 (hw : o_T Z a0) (Z0 : n0 ≤ h0.size) :
    M42' l Z (o_rm 0 0 0 0) #[(.int 64)] h0 (fun v h L => v = some (.int 128) ∧ Fr n0 L ∧ h = h0) := by
  refine o_start (plainFor_of_name o_pn0) (L0 := #[.val (.int 64)]) (fun _ => rfl) fun p e s m below meth c s₁ hx hby hml hown hnm hret hZ X0 e0 B H => ?_
  have N0 := Fr.nil n0
  have z0 : n0 ≤ h0.size := Z0
  refine xi X0 B d42_0 rfl ?_
  have hc1 : ¬ ((64 : Int32) < 0) := by decide
  refine xy X0 B 1 12 rfl d42_1 (XT.i0_ge_t hc1) (by decide) ?_
  refine xi X0 B d42_12 rfl ?_
  refine o_go (fun _ k => X0.ldcInt hx hown (mvT hZ (o_h hw 230 rfl)) (g := (mkF m 13 #[.val (.int 64)] [(.int 64)])) rfl (hb hby d42_13) _ k) ?_
  show o_Go _ _ _ _ s₁ (mkF m 15 #[.val (.int 64)] [(.int 1073741823), (.int 64)])
  have hc2 : (64 : Int32) < (1073741823 : Int32) := by decide
  refine xM X0 B 15 55 rfl d42_15 (XT.ii_lt_t hc2) (by decide) ?_
  refine xi X0 B d42_55 rfl ?_
  refine xc X0 B d42_56 1 rfl ?_
  refine xshl X0 B d42_57 (128) rfl ?_
  exact o_retI X0 B hret (Or.inl rfl) rfl d42_58 (by decide) e0 ⟨rfl, N0, rfl⟩
theorem o_rm41_s2 (hw : o_T Z a0) (Z0 : n0 ≤ h0.size) :
    M41' l Z (o_rm 1 1 128 12) #[(.int 64)] h0 (fun v h L => ∃ (x_0 : Addr), v = some (.ref x_0) ∧ Fr n0 L ∧ Keep h0 h [] ∧ o_AV Z h x_0 .byte (128 : Int32) (o_by (fun _ => 0)) ∧ (h0.size ≤ x_0)) := by
  refine o_start (plainFor_of_name o_pn0) (L0 := #[.val (.int 64)]) (fun _ => rfl) fun p e s m below meth c s₁ hx hby hml hown hnm hret hZ X0 e0 B H => ?_
  have N0 := Fr.nil n0
  have z0 : n0 ≤ h0.size := Z0
  have K0 : Keep h0 h0 [] := Keep.refl h0 _
  refine xi X0 B d41_0 rfl ?_
  refine o_cst X0 B H e0 (o_rm42_s2 (n0 := n0) hw (by omega)   ) (o_h hw 227 rfl) (o_h hw 228 rfl) (o_w213 hw) (o_h hw 229 rfl) rfl (lenOf o_pd5 rfl) rfl rfl (W := 0) rfl d41_1 (by decide) ?_
  rintro _ T1 L1 X1 ⟨rfl, N1q, e1⟩
  have N1 := Fr.app N0 N1q
  obtain ⟨T2, h2, k2, X2, e2, E2, A2, st2⟩ := newP X1 hx hZ (hw _ (List.mem_of_getElem? (i := 15) rfl)) e1 (g := (mkF m 4 #[.val (.int 64)] [(.int 128)])) rfl (hb hby d41_4) rfl (by decide) (cap := 128) (by decide) (by decide) (by decide) (by decide)
  obtain ⟨b2, g2⟩ : ∃ z, z = h0.size := ⟨_, rfl⟩
  rw [← g2] at A2 st2
  have z3 := E2.1
  have lt_b2 := o_lt A2.lt
  have K2 := K0.ext E2
  have V_b2 : o_AV Z h2 b2 .byte (128 : Int32) (o_by (fun _ => 0)) := o_AV.congr (o_AV.new A2 (by decide)) fun i _ => (o_by0 i).symm
  refine o_go st2 ?_
  exact o_retA X2 B hret rfl rfl rfl d41_6 (by decide) e2 ⟨b2, rfl, N1, K2, V_b2, (by omega)⟩
theorem o_t40_s2_0 (i8 : Nat) (hlt8 : i8 < 64) : (Int32.ofNat i8) < (64 : Int32) := by
  exact (o_ixb (n := 64) hlt8 (by decide)).2
theorem o_t40_s2_1   : ¬ ((Int32.ofNat 64) < (64 : Int32)) := by
  decide
theorem o_rm40_s2 (hw : o_T Z a0) (Z0 : n0 ≤ h0.size) (a_1 : Addr) (fa_a_1 : Nat → Int32) (j0 : o_AV Z h0 a_1 .char (64 : Int32) (o_ch fa_a_1)) (j1 : o_G Z h0) :
    M40' l Z (o_rm 2 1 128 24) #[(.ref a_1), (.int 0), (.int 64)] h0 (fun v h L => ∃ (x_0 : Addr), v = some (.ref x_0) ∧ Fr n0 L ∧ Keep h0 h [] ∧ o_AV Z h x_0 .byte (128 : Int32) (o_by (o_fill2 fa_a_1 (fun _ => 0) 64)) ∧ (h0.size ≤ x_0)) := by
  refine o_start (plainFor_of_name o_pn0) (L0 := #[.val (.ref a_1), .val (.int 0), .val (.int 64), .unset, .unset]) (fun _ => rfl) fun p e s m below meth c s₁ hx hby hml hown hnm hret hZ X0 e0 B H => ?_
  have N0 := Fr.nil n0
  have z0 : n0 ≤ h0.size := Z0
  have z1 := o_lt j0.lt
  have K0 : Keep h0 h0 [] := Keep.refl h0 _
  refine xi X0 B d40_0 rfl ?_
  refine o_cst X0 B H e0 (o_rm41_s2 (n0 := n0) hw (by omega)   ) (o_h hw 224 rfl) (o_h hw 225 rfl) (o_w213 hw) (o_h hw 226 rfl) rfl (lenOf o_pd6 rfl) rfl rfl (W := 0) rfl d40_1 (by decide) ?_
  rintro _ T2 L2 X2 ⟨x_3, rfl, N2q, K2q, f4, f5⟩
  have N2 := Fr.app N0 N2q
  have z6 := K2q.1
  have K2 := K0.trans K2q all0
  have z7 := o_lt f4.lt
  refine xt X2 B d40_4 rfl (l' := #[.val (.ref a_1), .val (.int 0), .val (.int 64), .val (.ref x_3), .unset]) rfl ?_
  refine xc X2 B d40_5 0 rfl ?_
  refine xS X2 B d40_6 (l' := #[.val (.ref a_1), .val (.int 0), .val (.int 64), .val (.ref x_3), .val (.int 0)]) rfl ?_
  have f9 := (j0.keep K2q nin0)
  have f10 := (j1.keep K2q all0)
  refine o_loop (n := 64) (Inv := fun iI TI gI => ∃ (LI : List Loc) (hI : Heap), Stand p l e (o_rm 2 1 128 24) s m #[(.ref a_1), (.int 0), (.int 64)] below meth c TI LI 1 128 ∧ TI.heap = hI ∧ Fr n0 LI ∧ Keep h0 hI [] ∧ o_AV Z hI a_1 .char (64 : Int32) (o_ch fa_a_1) ∧ o_G Z hI ∧ o_AV Z hI x_3 .byte (128 : Int32) (o_by (o_fill2 fa_a_1 (fun _ => 0) iI)) ∧ gI = mkF m 8 #[.val (.ref a_1), .val (.int (Int32.ofNat iI)), .val (.int 64), .val (.ref x_3), .val (.int (Int32.ofNat iI))] []) ?_ ?_ ⟨_, T2.heap, X2, rfl, N2, K2, f9, f10, (by rw [o_fill2_0]; exact f4), rfl⟩
  · rintro i8 T8a g8a hlt8 ⟨L8a, h8a, X8a, e8a, N8a, K8a, f8a_0, f8a_1, f8a_2, rfl⟩ ag8
    have z11 := K8a.1
    have z12 := o_lt f8a_0.lt
    have z13 := o_lt f8a_2.lt
    show o_Go _ _ _ _ T8a (mkF m 8 #[.val (.ref a_1), .val (.int (Int32.ofNat i8)), .val (.int 64), .val (.ref x_3), .val (.int (Int32.ofNat i8))] [])
    refine xI X8a B d40_8 rfl ?_
    refine xi X8a B d40_10 rfl ?_
    have hc14 : (Int32.ofNat i8) < (64 : Int32) := o_t40_s2_0 i8 hlt8
    refine xm X8a B d40_11 (XT.ii_ge_f hc14) ?_
    refine xa X8a B d40_14 rfl rfl ?_
    refine xI X8a B d40_15 rfl ?_
    refine xa X8a B d40_17 rfl rfl ?_
    refine xi X8a B d40_18 rfl ?_
    obtain ⟨q15, c15, R15, s15, t15⟩ := id f8a_0
    have hin15 : ¬ ((Int32.ofNat i8) < 0 ∨ c15.slots.size ≤ ((Int32.ofNat i8)).toNatClampNeg) := inb_of s15 (o_ixb (z := (64 : Int32)) (n := 64) (by omega) (by decide))
    have u15 : c15.slots[((Int32.ofNat i8)).toNatClampNeg]? = some (.int (fa_a_1 i8)) := o_at (k := i8) t15 s15 hin15 (o_tn (by omega)) (rfl)
    refine o_go (fun _ k => X8a.caload hx (j := (Int32.ofNat i8)) (v := (.int (fa_a_1 i8))) (by rw [e8a]; exact R15.1) (State.isArrayOf_alike hZ.alike R15.2.1) R15.2.2 hin15 u15 (g := (mkF m 19 #[.val (.ref a_1), .val (.int (Int32.ofNat i8)), .val (.int 64), .val (.ref x_3), .val (.int (Int32.ofNat i8))] [(.int (Int32.ofNat i8)), (.ref a_1), (.int (Int32.ofNat i8)), (.ref x_3)])) rfl rfl (hb hby d40_19) _ k) ?_
    show o_Go _ _ _ _ T8a (mkF m 20 #[.val (.ref a_1), .val (.int (Int32.ofNat i8)), .val (.int 64), .val (.ref x_3), .val (.int (Int32.ofNat i8))] [(.int (fa_a_1 i8)), (.int (Int32.ofNat i8)), (.ref x_3)])
    refine o_cst X8a B H e8a (o_rm43 (n0 := n0) hw (by omega) x_3 (Int32.ofNat i8) (fa_a_1 i8) (o_fill2 fa_a_1 (fun _ => 0) i8) (128 : Int32) i8 f8a_1 f8a_2 rfl (o_hb (n := 128) (by decide) (by omega)) (by omega)) (o_h hw 231 rfl) (o_h hw 232 rfl) (o_w213 hw) (o_h hw 233 rfl) rfl (lenOf o_pd7 rfl) rfl rfl (W := 0) rfl d40_20 (by decide) ?_
    rintro _ T16 L16 X16 ⟨rfl, N16q, K16q, f17⟩
    have N16 := Fr.app N8a N16q
    have z18 := K16q.1
    have K16 := K8a.trans K16q (allS (Or.inr (by omega)) all0)
    have z19 := o_lt f17.lt
    refine o_go (fun _ k => XS.iinc X16.here hx rfl (hb hby d40_23) rfl (l' := #[.val (.ref a_1), .val (.int ((Int32.ofNat i8) + (1 : Int32))), .val (.int 64), .val (.ref x_3), .val (.int (Int32.ofNat i8))]) rfl k) ?_
    show o_Go _ _ _ _ T16 (mkF m 26 #[.val (.ref a_1), .val (.int ((Int32.ofNat i8) + (1 : Int32))), .val (.int 64), .val (.ref x_3), .val (.int (Int32.ofNat i8))] [])
    rw [o_inc]
    show o_Go _ _ _ _ T16 (mkF m 26 #[.val (.ref a_1), .val (.int (Int32.ofNat (i8 + 1))), .val (.int 64), .val (.ref x_3), .val (.int (Int32.ofNat i8))] [])
    refine o_go (fun _ k => XS.iinc X16.here hx rfl (hb hby d40_26) rfl (l' := #[.val (.ref a_1), .val (.int (Int32.ofNat (i8 + 1))), .val (.int 64), .val (.ref x_3), .val (.int ((Int32.ofNat i8) + (1 : Int32)))]) rfl k) ?_
    show o_Go _ _ _ _ T16 (mkF m 29 #[.val (.ref a_1), .val (.int (Int32.ofNat (i8 + 1))), .val (.int 64), .val (.ref x_3), .val (.int ((Int32.ofNat i8) + (1 : Int32)))] [])
    rw [o_inc]
    show o_Go _ _ _ _ T16 (mkF m 29 #[.val (.ref a_1), .val (.int (Int32.ofNat (i8 + 1))), .val (.int 64), .val (.ref x_3), .val (.int (Int32.ofNat (i8 + 1)))] [])
    refine xg X16 B 29 8 rfl d40_29 (by decide) ?_
    have f20 := (f8a_0.keep K16q (ninS (o_ne (by omega)) nin0))
    have f21 := (f8a_1.keep K16q (allS (o_AV.plain f8a_2) all0))
    exact ag8 _ _ ⟨_, T16.heap, X16, rfl, N16, K16, f20, f21, (by rw [← o_fill2_s]; exact f17), rfl⟩
  · rintro T8b g8b ⟨L8b, h8b, X8b, e8b, N8b, K8b, f8b_0, f8b_1, f8b_2, rfl⟩
    have z22 := K8b.1
    have z23 := o_lt f8b_0.lt
    have z24 := o_lt f8b_2.lt
    show o_Go _ _ _ _ T8b (mkF m 8 #[.val (.ref a_1), .val (.int (Int32.ofNat 64)), .val (.int 64), .val (.ref x_3), .val (.int (Int32.ofNat 64))] [])
    refine xI X8b B d40_8 rfl ?_
    refine xi X8b B d40_10 rfl ?_
    have hc25 : ¬ ((Int32.ofNat 64) < (64 : Int32)) := o_t40_s2_1  
    refine xM X8b B 11 32 rfl d40_11 (XT.ii_ge_t hc25) (by decide) ?_
    refine xa X8b B d40_32 rfl rfl ?_
    exact o_retA X8b B hret rfl rfl rfl d40_33 (by decide) e8b ⟨x_3, rfl, N8b, K8b, f8b_2, (by omega)⟩
theorem o_t37_U64_0 (g : Nat → Int32) (kk : Nat) (hle : ∀ i, i < kk → ¬ ((255 : Int32) < (g i))) (hwt : (255 : Int32) < (g kk)) (hkn : kk < 64) (hchr : (g kk).toUInt32.toUInt16.toUInt32.toInt32 = g kk) : ¬ ((Int32.ofNat kk) = (64 : Int32)) := by
  exact o_nek hkn (by decide)
theorem o_t37_U64_1 (g : Nat → Int32) (kk : Nat) (hle : ∀ i, i < kk → ¬ ((255 : Int32) < (g i))) (hwt : (255 : Int32) < (g kk)) (hkn : kk < 64) (hchr : (g kk).toUInt32.toUInt16.toUInt32.toInt32 = g kk) (hc9 : ¬ ((Int32.ofNat kk) = (64 : Int32))) : (255 : Int32) < (o_gc (o_fill2 g (fun _ => 0) 64) kk) := by
  rw [o_gcf _ _ hkn, hchr]; exact hwt
theorem o_rm37_U64 (hw : o_T Z a0) (Z0 : n0 ≤ h0.size) (a_1 : Addr) (g : Nat → Int32) (kk : Nat) (j0 : o_G Z h0) (j1 : o_AV Z h0 a_1 .char (64 : Int32) (o_ch g)) (hle : ∀ i, i < kk → ¬ ((255 : Int32) < (g i))) (hwt : (255 : Int32) < (g kk)) (hkn : kk < 64) (hchr : (g kk).toUInt32.toUInt16.toUInt32.toInt32 = g kk) :
    M37' l Z (o_rm 3 2 192 40) #[(.ref a_1), (.int 0), (.int 64)] h0 (fun v h L => ∃ (x_0 : Addr), v = some (.ref x_0) ∧ Fr n0 L ∧ Keep h0 h [] ∧ o_AV Z h x_0 .byte (128 : Int32) (o_by (o_fill2 g (fun _ => 0) 64)) ∧ (h0.size ≤ x_0)) := by
  refine o_start (plainFor_of_name o_pn0) (L0 := #[.val (.ref a_1), .val (.int 0), .val (.int 64), .unset, .unset, .unset]) (fun _ => rfl) fun p e s m below meth c s₁ hx hby hml hown hnm hret hZ X0 e0 B H => ?_
  have N0 := Fr.nil n0
  have z0 : n0 ≤ h0.size := Z0
  have z1 := o_lt j1.lt
  have K0 : Keep h0 h0 [] := Keep.refl h0 _
  refine xi X0 B d37_0 rfl ?_
  obtain ⟨T2, h2, k2, X2, e2, E2, A2, st2⟩ := newP X0 hx hZ (hw _ (List.mem_of_getElem? (i := 15) rfl)) e0 (g := (mkF m 1 #[.val (.ref a_1), .val (.int 0), .val (.int 64), .unset, .unset, .unset] [(.int 64)])) rfl (hb hby d37_1) rfl (by decide) (cap := 64) (by decide) (by decide) (by decide) (by decide)
  obtain ⟨b2, g2⟩ : ∃ z, z = h0.size := ⟨_, rfl⟩
  rw [← g2] at A2 st2
  have z3 := E2.1
  have lt_b2 := o_lt A2.lt
  have K2 := K0.ext E2
  have V_b2 : o_AV Z h2 b2 .byte (64 : Int32) (o_by (fun _ => 0)) := o_AV.congr (o_AV.new A2 (by decide)) fun i _ => (o_by0 i).symm
  refine o_go st2 ?_
  refine xt X2 B d37_3 rfl (l' := #[.val (.ref a_1), .val (.int 0), .val (.int 64), .val (.ref b2), .unset, .unset]) rfl ?_
  refine xa X2 B d37_4 rfl rfl ?_
  refine xi X2 B d37_5 rfl ?_
  refine xa X2 B d37_6 rfl rfl ?_
  refine xc X2 B d37_7 0 rfl ?_
  refine xi X2 B d37_8 rfl ?_
  have f4 := (j1.ext E2)
  refine o_cst X2 B H e2 (o_rm38 (n0 := n0) hw (by omega) a_1 b2 (64 : Int32) g (fun _ => 0) kk f4 V_b2 hle (o_hbl (n := 64) (by decide) (by omega)) (fun _ => hwt) (o_ne (by omega)) (by decide) (by omega) (by omega)) (o_h hw 215 rfl) (o_h hw 216 rfl) (o_w213 hw) (o_h hw 217 rfl) rfl (lenOf o_pd1 rfl) rfl rfl (W := 0) rfl d37_9 (by decide) ?_
  rintro _ T5 L5 X5 ⟨rfl, N5q, K5q, f6⟩
  have N5 := Fr.app N0 N5q
  have z7 := K5q.1
  have K5 := K2.trans K5q (allS (Or.inr (by omega)) all0)
  have z8 := o_lt f6.lt
  refine xS X5 B d37_12 (l' := #[.val (.ref a_1), .val (.int 0), .val (.int 64), .val (.ref b2), .val (.int (Int32.ofNat kk)), .unset]) rfl ?_
  refine xI X5 B d37_14 rfl ?_
  refine xi X5 B d37_16 rfl ?_
  have hc9 : ¬ ((Int32.ofNat kk) = (64 : Int32)) := o_t37_U64_0 g kk hle hwt hkn hchr
  refine xm X5 B d37_17 (XT.ii_eq_f hc9) ?_
  refine xa X5 B d37_20 rfl rfl ?_
  refine xi X5 B d37_21 rfl ?_
  refine xi X5 B d37_22 rfl ?_
  have f10 := (f4.keep K5q (ninS (o_ne (by omega)) nin0))
  have f11 := ((j0.ext E2).keep K5q (allS (o_AV.plain V_b2) all0))
  refine o_cst X5 B H rfl (o_rm40_s2 (n0 := n0) hw (by omega) a_1 g f10 f11) (o_h hw 221 rfl) (o_h hw 222 rfl) (o_w213 hw) (o_h hw 223 rfl) rfl (lenOf o_pd2 rfl) rfl rfl (W := 0) rfl d37_23 (by decide) ?_
  rintro _ T12 L12 X12 ⟨x_13, rfl, N12q, K12q, f14, f15⟩
  have N12 := Fr.app N5 N12q
  have z16 := K12q.1
  have K12 := K5.trans K12q all0
  have z17 := o_lt f14.lt
  refine xT X12 B d37_26 rfl (l' := #[.val (.ref a_1), .val (.int 0), .val (.int 64), .val (.ref b2), .val (.int (Int32.ofNat kk)), .val (.ref x_13)]) rfl ?_
  refine xA X12 B d37_28 rfl rfl ?_
  refine xI X12 B d37_30 rfl ?_
  have f18 := (f11.keep K12q all0)
  refine o_cst X12 B H rfl (o_rm44 (n0 := n0) hw (by omega) x_13 (Int32.ofNat kk) (o_fill2 g (fun _ => 0) 64) (128 : Int32) kk f18 f14 rfl (o_hb (n := 128) (by decide) (by omega))) (o_h hw 237 rfl) (o_h hw 238 rfl) (o_w213 hw) (o_h hw 239 rfl) rfl (lenOf o_pd8 rfl) rfl rfl (W := 0) rfl d37_32 (by decide) ?_
  rintro _ T19 L19 X19 ⟨rfl, N19q, e19⟩
  have N19 := Fr.app N12 N19q
  refine xh X19 B d37_35 255 rfl ?_
  have hc20 : (255 : Int32) < (o_gc (o_fill2 g (fun _ => 0) 64) kk) := o_t37_U64_1 g kk hle hwt hkn hchr hc9
  refine xM X19 B 38 54 rfl d37_38 (XT.ii_gt_t hc20) (by decide) ?_
  refine xA X19 B d37_54 rfl rfl ?_
  exact o_retA X19 B hret rfl rfl rfl d37_56 (by decide) e19 ⟨x_13, rfl, N19, K12, f14, (by omega)⟩
theorem o_rm39_s4 (hw : o_T Z a0) (Z0 : n0 ≤ h0.size) (a_1 : Addr) (fa_a_1 : Nat → Int32) (j0 : o_AV Z h0 a_1 .byte (128 : Int32) (o_by fa_a_1)) :
    M39' l Z (o_rm 0 0 0 0) #[(.ref a_1), (.int 64)] h0 (fun v h L => v = some (.int 1) ∧ Fr n0 L ∧ h = h0) := by
  refine o_start (plainFor_of_name o_pn0) (L0 := #[.val (.ref a_1), .val (.int 64)]) (fun _ => rfl) fun p e s m below meth c s₁ hx hby hml hown hnm hret hZ X0 e0 B H => ?_
  have N0 := Fr.nil n0
  have z0 : n0 ≤ h0.size := Z0
  have z1 := o_lt j0.lt
  refine xi X0 B d39_0 rfl ?_
  refine xa X0 B d39_1 rfl rfl ?_
  refine xl X0 B H e0 j0 d39_2 ?_
  refine xsub X0 B d39_3 (-64) rfl ?_
  refine xb X0 B d39_4 31 rfl ?_
  refine o_go (fun _ k => XS.iushr X0.here hx rfl (hb hby d39_6) rfl k) ?_
  show o_Go _ _ _ _ s₁ (mkF m 7 #[.val (.ref a_1), .val (.int 64)] [(.int 1)])
  refine o_go (fun _ k => XS.i2b X0.here hx rfl (hb hby d39_7) rfl k) ?_
  show o_Go _ _ _ _ s₁ (mkF m 8 #[.val (.ref a_1), .val (.int 64)] [(.int 1)])
  exact o_retI X0 B hret (Or.inr (Or.inr (Or.inl rfl))) rfl d39_8 (by decide) e0 ⟨rfl, N0, rfl⟩
theorem o_rm2_U64 (hw : o_T Z a0) (Z0 : n0 ≤ h0.size) (a_1 a_2 : Addr) (g : Nat → Int32) (kk : Nat) (u_0 u_1 : Value) (j0 : o_G Z h0) (j1 : o_E0 Z h0 a_1) (j2 : o_F2 Z h0 a_1 u_0) (j3 : o_F1 Z h0 a_1 u_1) (j4 : o_AV Z h0 a_2 .char (64 : Int32) (o_ch g)) (hle : ∀ i, i < kk → ¬ ((255 : Int32) < (g i))) (hwt : (255 : Int32) < (g kk)) (hkn : kk < 64) (hchr : (g kk).toUInt32.toUInt16.toUInt32.toInt32 = g kk) (hd_a_1_a_2 : o_df a_1 a_2) (gw_a_1 : n0 ≤ a_1) :
    M2' l Z (o_rm 4 2 192 57) #[(.ref a_1), (.ref a_2), (.int 0), (.int 64), .null] h0 (fun v h L => ∃ (x_0 : Addr), v = none ∧ Fr n0 L ∧ Keep h0 h [a_1] ∧ o_E0 Z h a_1 ∧ o_F2 Z h a_1 (.ref x_0) ∧ o_F1 Z h a_1 (.int 1) ∧ o_AV Z h x_0 .byte (128 : Int32) (o_by (o_fill2 g (fun _ => 0) 64)) ∧ (h0.size ≤ x_0)) := by
  refine o_start (plainFor_of_name o_pn2) (L0 := #[.val (.ref a_1), .val (.ref a_2), .val (.int 0), .val (.int 64), .val .null, .unset]) (fun _ => rfl) fun p e s m below meth c s₁ hx hby hml hown hnm hret hZ X0 e0 B H => ?_
  have N0 := Fr.nil n0
  have z0 : n0 ≤ h0.size := Z0
  have z1 := o_lt j1.lt
  have z2 := o_lt j4.lt
  have K0 : Keep h0 h0 [a_1] := Keep.refl h0 _
  refine xa X0 B d2_0 rfl rfl ?_
  obtain ⟨T3, X3, e3, st3⟩ := initO X0 hx hZ hown (o_w11 hw) (o_w12 hw) (o_w13 hw) e0 (g := (mkF m 1 #[.val (.ref a_1), .val (.ref a_2), .val (.int 0), .val (.int 64), .val .null, .unset] [(.ref a_1)])) rfl (by rw [hml]; rfl) rfl (hb hby d2_1) (by decide) (W := 0) (by show 2 * 0 + _ ≤ _; exact Nat.le_of_eq rfl) (by decide)
  refine o_go st3 ?_
  refine xi X3 B d2_4 rfl ?_
  have hc4 : ¬ ((64 : Int32) = 0) := by decide
  refine xy X3 B 5 27 rfl d2_5 (XT.i0_ne_t hc4) (by decide) ?_
  refine o_gs X3 B H (o_w70 hw) e3 j0.1 d2_27 fun T5 X5 e5 => ?_
  refine xn X5 B d2_30 (XT.i0_eq_f (o_hcs j0)) ?_
  refine xa X5 B d2_33 rfl rfl ?_
  refine xi X5 B d2_34 rfl ?_
  refine xi X5 B d2_35 rfl ?_
  refine o_cst X5 B H e5 (o_rm37_U64 (n0 := n0) hw (by omega) a_2 g kk j0 j4 (show ∀ i, i < kk → ¬ ((255 : Int32) < (g i)) by first | assumption | omega | decide) (show (255 : Int32) < (g kk) by first | assumption | omega | decide) (show kk < 64 by first | assumption | omega | decide) (show (g kk).toUInt32.toUInt16.toUInt32.toInt32 = g kk by first | assumption | omega | decide)) (o_h hw 211 rfl) (o_h hw 212 rfl) (o_w213 hw) (o_h hw 214 rfl) rfl (lenOf o_pd2 rfl) rfl rfl (W := 0) rfl d2_36 (by decide) ?_
  rintro _ T7 L7 X7 ⟨x_8, rfl, N7q, K7q, f9, f10⟩
  have N7 := Fr.app N0 N7q
  have z11 := K7q.1
  have K7 := K0.trans K7q all0
  have z12 := o_lt f9.lt
  refine xT X7 B d2_39 rfl (l' := #[.val (.ref a_1), .val (.ref a_2), .val (.int 0), .val (.int 64), .val .null, .val (.ref x_8)]) rfl ?_
  refine xa X7 B d2_41 rfl rfl ?_
  refine xA X7 B d2_42 rfl rfl ?_
  refine xi X7 B d2_44 rfl ?_
  refine o_cst X7 B H rfl (o_rm39_s4 (n0 := n0) hw (by omega) x_8 (o_fill2 g (fun _ => 0) 64) f9) (o_h hw 218 rfl) (o_h hw 219 rfl) (o_w213 hw) (o_h hw 220 rfl) rfl (lenOf o_pd3 rfl) rfl rfl (W := 1) rfl d2_45 (by decide) ?_
  rintro _ T13 L13 X13 ⟨rfl, N13q, e13⟩
  have N13 := Fr.app N7 N13q
  have f14 := (j1.keep K7q)
  have f15 := (j3.keep K7q nin0)
  obtain ⟨T16, h16, X16, e16, W16, st16⟩ := putFN X13 hx hZ hown (o_w21 hw) Via.refl e13 f15 f14 (Or.inr ⟨(o_w17 hw), rfl, hnm⟩) (o_w1 hw) (ty := .byte) (v' := .int 1) (by decide) (rfl) (fits_nar_byte (1 : Int32)) (g := (mkF m 48 #[.val (.ref a_1), .val (.ref a_2), .val (.int 0), .val (.int 64), .val .null, .val (.ref x_8)] [(.int 1), (.ref a_1)])) rfl rfl (hb hby d2_48)
  have z17 := W16.size
  have K16 := K7.wr W16 (Or.inl o_m0)
  have N16 := Fr.snoc X16 N13 (by omega : n0 ≤ a_1)
  have Fw16 : o_F1 Z h16 a_1 (.int 1) := Fld.same W16 f15
  refine o_go st16 ?_
  refine xa X16 B d2_51 rfl rfl ?_
  refine xA X16 B d2_52 rfl rfl ?_
  have f18 := (f14.wr W16)
  have f19 := ((j2.keep K7q nin0).other W16 (Or.inr (slot_ne (Or.inr (o_w16 hw)) (Or.inr (o_w17 hw)) (by decide) (t := (.array .byte)) (t' := .byte) (by decide) (by decide))))
  obtain ⟨T20, h20, X20, e20, W20, st20⟩ := putF X16 hx hZ hown (host := "") (Or.inl (o_w20 hw)) Via.refl e16 f19 f18 (Or.inr ⟨(o_w16 hw), rfl, hnm⟩) (o_w1 hw) (ty := (.array .byte)) (by decide) rfl rfl (g := (mkF m 54 #[.val (.ref a_1), .val (.ref a_2), .val (.int 0), .val (.int 64), .val .null, .val (.ref x_8)] [(.ref x_8), (.ref a_1)])) rfl rfl (hb hby d2_54)
  have z21 := W20.size
  have K20 := K16.wr W20 (Or.inl o_m0)
  have N20 := Fr.snoc X20 N16 (by omega : n0 ≤ a_1)
  have Fw20 : o_F2 Z h20 a_1 (.ref x_8) := Fld.same W20 f19
  refine o_go st20 ?_
  have f23 := (f18.wr W20)
  have f24 := (Fw16.other W20 (Or.inr (slot_ne (Or.inr (o_w17 hw)) (Or.inr (o_w16 hw)) (by decide) (t := .byte) (t' := (.array .byte)) (by decide) (by decide))))
  have f25 := ((f9.other W16 (o_ne (by omega))).other W20 (o_ne (by omega)))
  exact o_retV X20 B hret d2_57 (by decide) e20 ⟨x_8, rfl, N20, K20, f23, Fw20, f24, f25, (by omega)⟩
theorem o_rm1_U64 (hw : o_T Z a0) (Z0 : n0 ≤ h0.size) (a_1 a_2 : Addr) (g : Nat → Int32) (kk : Nat) (u_0 u_1 : Value) (j0 : o_G Z h0) (j1 : o_E0 Z h0 a_1) (j2 : o_F2 Z h0 a_1 u_0) (j3 : o_F1 Z h0 a_1 u_1) (j4 : o_AV Z h0 a_2 .char (64 : Int32) (o_ch g)) (hle : ∀ i, i < kk → ¬ ((255 : Int32) < (g i))) (hwt : (255 : Int32) < (g kk)) (hkn : kk < 64) (hchr : (g kk).toUInt32.toUInt16.toUInt32.toInt32 = g kk) (hd_a_1_a_2 : o_df a_1 a_2) (gw_a_1 : n0 ≤ a_1) :
    M1' l Z (o_rm 5 2 192 74) #[(.ref a_1), (.ref a_2)] h0 (fun v h L => ∃ (x_0 : Addr), v = none ∧ Fr n0 L ∧ Keep h0 h [a_1] ∧ o_E0 Z h a_1 ∧ o_F2 Z h a_1 (.ref x_0) ∧ o_F1 Z h a_1 (.int 1) ∧ o_AV Z h x_0 .byte (128 : Int32) (o_by (o_fill2 g (fun _ => 0) 64)) ∧ (h0.size ≤ x_0)) := by
  refine o_start (plainFor_of_name o_pn2) (L0 := #[.val (.ref a_1), .val (.ref a_2)]) (fun _ => rfl) fun p e s m below meth c s₁ hx hby hml hown hnm hret hZ X0 e0 B H => ?_
  have N0 := Fr.nil n0
  have z0 : n0 ≤ h0.size := Z0
  have z1 := o_lt j1.lt
  have z2 := o_lt j4.lt
  have K0 : Keep h0 h0 [a_1] := Keep.refl h0 _
  refine xa X0 B d1_0 rfl rfl ?_
  refine xa X0 B d1_1 rfl rfl ?_
  refine xc X0 B d1_2 0 rfl ?_
  refine xa X0 B d1_3 rfl rfl ?_
  refine xl X0 B H e0 j4 d1_4 ?_
  refine xu X0 B d1_5 ?_
  refine o_csp (a := a_1) X0 B H e0 (o_rm2_U64 (n0 := n0) hw (by omega) a_1 a_2 g kk u_0 u_1 j0 j1 j2 j3 j4 (show ∀ i, i < kk → ¬ ((255 : Int32) < (g i)) by first | assumption | omega | decide) (show (255 : Int32) < (g kk) by first | assumption | omega | decide) (show kk < 64 by first | assumption | omega | decide) (show (g kk).toUInt32.toUInt16.toUInt32.toInt32 = g kk by first | assumption | omega | decide) hd_a_1_a_2 (by omega)) (o_h hw 7 rfl) (o_h hw 8 rfl) (o_w2 hw) (o_h hw 10 rfl) rfl rfl (lenOf o_pd4 rfl) rfl rfl (W := 0) rfl d1_6 (by decide) ?_
  rintro _ T3 L3 X3 ⟨x_4, rfl, N3q, K3q, f5, f6, f7, f8, f9⟩
  have N3 := Fr.app N0 N3q
  have z10 := K3q.1
  have K3 := K0.trans K3q (allS (Or.inl o_m0) all0)
  have z11 := o_lt f5.lt
  have z12 := o_lt f8.lt
  exact o_retV X3 B hret d1_9 (by decide) rfl ⟨x_4, rfl, N3, K3, f5, f6, f7, f8, (by omega)⟩
theorem o_t37_L66_0   : (Int32.ofNat 66) = (66 : Int32) := by
  decide
theorem o_rm37_L66 (hw : o_T Z a0) (Z0 : n0 ≤ h0.size) (a_1 : Addr) (g : Nat → Int32) (j0 : o_AV Z h0 a_1 .char (66 : Int32) (o_ch g)) (hle : ∀ i, i < 66 → ¬ ((255 : Int32) < (g i))) :
    M37' l Z (o_rm 1 1 66 18) #[(.ref a_1), (.int 0), (.int 66)] h0 (fun v h L => ∃ (x_0 : Addr), v = some (.ref x_0) ∧ Fr n0 L ∧ Keep h0 h [] ∧ o_AV Z h x_0 .byte (66 : Int32) (o_by (o_fill g (fun _ => 0) 66)) ∧ (h0.size ≤ x_0)) := by
  refine o_start (plainFor_of_name o_pn0) (L0 := #[.val (.ref a_1), .val (.int 0), .val (.int 66), .unset, .unset, .unset]) (fun _ => rfl) fun p e s m below meth c s₁ hx hby hml hown hnm hret hZ X0 e0 B H => ?_
  have N0 := Fr.nil n0
  have z0 : n0 ≤ h0.size := Z0
  have z1 := o_lt j0.lt
  have K0 : Keep h0 h0 [] := Keep.refl h0 _
  refine xi X0 B d37_0 rfl ?_
  obtain ⟨T2, h2, k2, X2, e2, E2, A2, st2⟩ := newP X0 hx hZ (hw _ (List.mem_of_getElem? (i := 15) rfl)) e0 (g := (mkF m 1 #[.val (.ref a_1), .val (.int 0), .val (.int 66), .unset, .unset, .unset] [(.int 66)])) rfl (hb hby d37_1) rfl (by decide) (cap := 66) (by decide) (by decide) (by decide) (by decide)
  obtain ⟨b2, g2⟩ : ∃ z, z = h0.size := ⟨_, rfl⟩
  rw [← g2] at A2 st2
  have z3 := E2.1
  have lt_b2 := o_lt A2.lt
  have K2 := K0.ext E2
  have V_b2 : o_AV Z h2 b2 .byte (66 : Int32) (o_by (fun _ => 0)) := o_AV.congr (o_AV.new A2 (by decide)) fun i _ => (o_by0 i).symm
  refine o_go st2 ?_
  refine xt X2 B d37_3 rfl (l' := #[.val (.ref a_1), .val (.int 0), .val (.int 66), .val (.ref b2), .unset, .unset]) rfl ?_
  refine xa X2 B d37_4 rfl rfl ?_
  refine xi X2 B d37_5 rfl ?_
  refine xa X2 B d37_6 rfl rfl ?_
  refine xc X2 B d37_7 0 rfl ?_
  refine xi X2 B d37_8 rfl ?_
  have f4 := (j0.ext E2)
  refine o_cst X2 B H e2 (o_rm38 (n0 := n0) hw (by omega) a_1 b2 (66 : Int32) g (fun _ => 0) 66 f4 V_b2 hle (by decide) (fun q => absurd q (by decide)) (o_ne (by omega)) (by decide) (by decide) (by omega)) (o_h hw 215 rfl) (o_h hw 216 rfl) (o_w213 hw) (o_h hw 217 rfl) rfl (lenOf o_pd1 rfl) rfl rfl (W := 0) rfl d37_9 (by decide) ?_
  rintro _ T5 L5 X5 ⟨rfl, N5q, K5q, f6⟩
  have N5 := Fr.app N0 N5q
  have z7 := K5q.1
  have K5 := K2.trans K5q (allS (Or.inr (by omega)) all0)
  have z8 := o_lt f6.lt
  refine xS X5 B d37_12 (l' := #[.val (.ref a_1), .val (.int 0), .val (.int 66), .val (.ref b2), .val (.int (Int32.ofNat 66)), .unset]) rfl ?_
  refine xI X5 B d37_14 rfl ?_
  refine xi X5 B d37_16 rfl ?_
  have hc9 : (Int32.ofNat 66) = (66 : Int32) := o_t37_L66_0  
  refine xM X5 B 17 57 rfl d37_17 (XT.ii_eq_t hc9) (by decide) ?_
  refine xa X5 B d37_57 rfl rfl ?_
  exact o_retA X5 B hret rfl rfl rfl d37_58 (by decide) rfl ⟨b2, rfl, N5, K5, f6, (by omega)⟩
theorem o_rm39_s5 (hw : o_T Z a0) (Z0 : n0 ≤ h0.size) (a_1 : Addr) (fa_a_1 : Nat → Int32) (j0 : o_AV Z h0 a_1 .byte (66 : Int32) (o_by fa_a_1)) :
    M39' l Z (o_rm 0 0 0 0) #[(.ref a_1), (.int 66)] h0 (fun v h L => v = some (.int 0) ∧ Fr n0 L ∧ h = h0) := by
  refine o_start (plainFor_of_name o_pn0) (L0 := #[.val (.ref a_1), .val (.int 66)]) (fun _ => rfl) fun p e s m below meth c s₁ hx hby hml hown hnm hret hZ X0 e0 B H => ?_
  have N0 := Fr.nil n0
  have z0 : n0 ≤ h0.size := Z0
  have z1 := o_lt j0.lt
  refine xi X0 B d39_0 rfl ?_
  refine xa X0 B d39_1 rfl rfl ?_
  refine xl X0 B H e0 j0 d39_2 ?_
  refine xsub X0 B d39_3 (0) rfl ?_
  refine xb X0 B d39_4 31 rfl ?_
  refine o_go (fun _ k => XS.iushr X0.here hx rfl (hb hby d39_6) rfl k) ?_
  show o_Go _ _ _ _ s₁ (mkF m 7 #[.val (.ref a_1), .val (.int 66)] [(.int 0)])
  refine o_go (fun _ k => XS.i2b X0.here hx rfl (hb hby d39_7) rfl k) ?_
  show o_Go _ _ _ _ s₁ (mkF m 8 #[.val (.ref a_1), .val (.int 66)] [(.int 0)])
  exact o_retI X0 B hret (Or.inr (Or.inr (Or.inl rfl))) rfl d39_8 (by decide) e0 ⟨rfl, N0, rfl⟩
theorem o_rm2_L66 (hw : o_T Z a0) (Z0 : n0 ≤ h0.size) (a_1 a_2 : Addr) (g : Nat → Int32) (u_0 u_1 : Value) (j0 : o_G Z h0) (j1 : o_E0 Z h0 a_1) (j2 : o_F2 Z h0 a_1 u_0) (j3 : o_F1 Z h0 a_1 u_1) (j4 : o_AV Z h0 a_2 .char (66 : Int32) (o_ch g)) (hle : ∀ i, i < 66 → ¬ ((255 : Int32) < (g i))) (hd_a_1_a_2 : o_df a_1 a_2) (gw_a_1 : n0 ≤ a_1) :
    M2' l Z (o_rm 2 1 66 35) #[(.ref a_1), (.ref a_2), (.int 0), (.int 66), .null] h0 (fun v h L => ∃ (x_0 : Addr), v = none ∧ Fr n0 L ∧ Keep h0 h [a_1] ∧ o_E0 Z h a_1 ∧ o_F2 Z h a_1 (.ref x_0) ∧ o_F1 Z h a_1 (.int 0) ∧ o_AV Z h x_0 .byte (66 : Int32) (o_by (o_fill g (fun _ => 0) 66)) ∧ (h0.size ≤ x_0)) := by
  refine o_start (plainFor_of_name o_pn2) (L0 := #[.val (.ref a_1), .val (.ref a_2), .val (.int 0), .val (.int 66), .val .null, .unset]) (fun _ => rfl) fun p e s m below meth c s₁ hx hby hml hown hnm hret hZ X0 e0 B H => ?_
  have N0 := Fr.nil n0
  have z0 : n0 ≤ h0.size := Z0
  have z1 := o_lt j1.lt
  have z2 := o_lt j4.lt
  have K0 : Keep h0 h0 [a_1] := Keep.refl h0 _
  refine xa X0 B d2_0 rfl rfl ?_
  obtain ⟨T3, X3, e3, st3⟩ := initO X0 hx hZ hown (o_w11 hw) (o_w12 hw) (o_w13 hw) e0 (g := (mkF m 1 #[.val (.ref a_1), .val (.ref a_2), .val (.int 0), .val (.int 66), .val .null, .unset] [(.ref a_1)])) rfl (by rw [hml]; rfl) rfl (hb hby d2_1) (by decide) (W := 0) (by show 2 * 0 + _ ≤ _; exact Nat.le_of_eq rfl) (by decide)
  refine o_go st3 ?_
  refine xi X3 B d2_4 rfl ?_
  have hc4 : ¬ ((66 : Int32) = 0) := by decide
  refine xy X3 B 5 27 rfl d2_5 (XT.i0_ne_t hc4) (by decide) ?_
  refine o_gs X3 B H (o_w70 hw) e3 j0.1 d2_27 fun T5 X5 e5 => ?_
  refine xn X5 B d2_30 (XT.i0_eq_f (o_hcs j0)) ?_
  refine xa X5 B d2_33 rfl rfl ?_
  refine xi X5 B d2_34 rfl ?_
  refine xi X5 B d2_35 rfl ?_
  refine o_cst X5 B H e5 (o_rm37_L66 (n0 := n0) hw (by omega) a_2 g j4 (show ∀ i, i < 66 → ¬ ((255 : Int32) < (g i)) by first | assumption | omega | decide)) (o_h hw 211 rfl) (o_h hw 212 rfl) (o_w213 hw) (o_h hw 214 rfl) rfl (lenOf o_pd2 rfl) rfl rfl (W := 0) rfl d2_36 (by decide) ?_
  rintro _ T7 L7 X7 ⟨x_8, rfl, N7q, K7q, f9, f10⟩
  have N7 := Fr.app N0 N7q
  have z11 := K7q.1
  have K7 := K0.trans K7q all0
  have z12 := o_lt f9.lt
  refine xT X7 B d2_39 rfl (l' := #[.val (.ref a_1), .val (.ref a_2), .val (.int 0), .val (.int 66), .val .null, .val (.ref x_8)]) rfl ?_
  refine xa X7 B d2_41 rfl rfl ?_
  refine xA X7 B d2_42 rfl rfl ?_
  refine xi X7 B d2_44 rfl ?_
  refine o_cst X7 B H rfl (o_rm39_s5 (n0 := n0) hw (by omega) x_8 (o_fill g (fun _ => 0) 66) f9) (o_h hw 218 rfl) (o_h hw 219 rfl) (o_w213 hw) (o_h hw 220 rfl) rfl (lenOf o_pd3 rfl) rfl rfl (W := 1) rfl d2_45 (by decide) ?_
  rintro _ T13 L13 X13 ⟨rfl, N13q, e13⟩
  have N13 := Fr.app N7 N13q
  have f14 := (j1.keep K7q)
  have f15 := (j3.keep K7q nin0)
  obtain ⟨T16, h16, X16, e16, W16, st16⟩ := putFN X13 hx hZ hown (o_w21 hw) Via.refl e13 f15 f14 (Or.inr ⟨(o_w17 hw), rfl, hnm⟩) (o_w1 hw) (ty := .byte) (v' := .int 0) (by decide) (rfl) (fits_nar_byte (0 : Int32)) (g := (mkF m 48 #[.val (.ref a_1), .val (.ref a_2), .val (.int 0), .val (.int 66), .val .null, .val (.ref x_8)] [(.int 0), (.ref a_1)])) rfl rfl (hb hby d2_48)
  have z17 := W16.size
  have K16 := K7.wr W16 (Or.inl o_m0)
  have N16 := Fr.snoc X16 N13 (by omega : n0 ≤ a_1)
  have Fw16 : o_F1 Z h16 a_1 (.int 0) := Fld.same W16 f15
  refine o_go st16 ?_
  refine xa X16 B d2_51 rfl rfl ?_
  refine xA X16 B d2_52 rfl rfl ?_
  have f18 := (f14.wr W16)
  have f19 := ((j2.keep K7q nin0).other W16 (Or.inr (slot_ne (Or.inr (o_w16 hw)) (Or.inr (o_w17 hw)) (by decide) (t := (.array .byte)) (t' := .byte) (by decide) (by decide))))
  obtain ⟨T20, h20, X20, e20, W20, st20⟩ := putF X16 hx hZ hown (host := "") (Or.inl (o_w20 hw)) Via.refl e16 f19 f18 (Or.inr ⟨(o_w16 hw), rfl, hnm⟩) (o_w1 hw) (ty := (.array .byte)) (by decide) rfl rfl (g := (mkF m 54 #[.val (.ref a_1), .val (.ref a_2), .val (.int 0), .val (.int 66), .val .null, .val (.ref x_8)] [(.ref x_8), (.ref a_1)])) rfl rfl (hb hby d2_54)
  have z21 := W20.size
  have K20 := K16.wr W20 (Or.inl o_m0)
  have N20 := Fr.snoc X20 N16 (by omega : n0 ≤ a_1)
  have Fw20 : o_F2 Z h20 a_1 (.ref x_8) := Fld.same W20 f19
  refine o_go st20 ?_
  have f23 := (f18.wr W20)
  have f24 := (Fw16.other W20 (Or.inr (slot_ne (Or.inr (o_w17 hw)) (Or.inr (o_w16 hw)) (by decide) (t := .byte) (t' := (.array .byte)) (by decide) (by decide))))
  have f25 := ((f9.other W16 (o_ne (by omega))).other W20 (o_ne (by omega)))
  exact o_retV X20 B hret d2_57 (by decide) e20 ⟨x_8, rfl, N20, K20, f23, Fw20, f24, f25, (by omega)⟩
theorem o_rm1_L66 (hw : o_T Z a0) (Z0 : n0 ≤ h0.size) (a_1 a_2 : Addr) (g : Nat → Int32) (u_0 u_1 : Value) (j0 : o_G Z h0) (j1 : o_E0 Z h0 a_1) (j2 : o_F2 Z h0 a_1 u_0) (j3 : o_F1 Z h0 a_1 u_1) (j4 : o_AV Z h0 a_2 .char (66 : Int32) (o_ch g)) (hle : ∀ i, i < 66 → ¬ ((255 : Int32) < (g i))) (hd_a_1_a_2 : o_df a_1 a_2) (gw_a_1 : n0 ≤ a_1) :
    M1' l Z (o_rm 3 1 66 52) #[(.ref a_1), (.ref a_2)] h0 (fun v h L => ∃ (x_0 : Addr), v = none ∧ Fr n0 L ∧ Keep h0 h [a_1] ∧ o_E0 Z h a_1 ∧ o_F2 Z h a_1 (.ref x_0) ∧ o_F1 Z h a_1 (.int 0) ∧ o_AV Z h x_0 .byte (66 : Int32) (o_by (o_fill g (fun _ => 0) 66)) ∧ (h0.size ≤ x_0)) := by
  refine o_start (plainFor_of_name o_pn2) (L0 := #[.val (.ref a_1), .val (.ref a_2)]) (fun _ => rfl) fun p e s m below meth c s₁ hx hby hml hown hnm hret hZ X0 e0 B H => ?_
  have N0 := Fr.nil n0
  have z0 : n0 ≤ h0.size := Z0
  have z1 := o_lt j1.lt
  have z2 := o_lt j4.lt
  have K0 : Keep h0 h0 [a_1] := Keep.refl h0 _
  refine xa X0 B d1_0 rfl rfl ?_
  refine xa X0 B d1_1 rfl rfl ?_
  refine xc X0 B d1_2 0 rfl ?_
  refine xa X0 B d1_3 rfl rfl ?_
  refine xl X0 B H e0 j4 d1_4 ?_
  refine xu X0 B d1_5 ?_
  refine o_csp (a := a_1) X0 B H e0 (o_rm2_L66 (n0 := n0) hw (by omega) a_1 a_2 g u_0 u_1 j0 j1 j2 j3 j4 (show ∀ i, i < 66 → ¬ ((255 : Int32) < (g i)) by first | assumption | omega | decide) hd_a_1_a_2 (by omega)) (o_h hw 7 rfl) (o_h hw 8 rfl) (o_w2 hw) (o_h hw 10 rfl) rfl rfl (lenOf o_pd4 rfl) rfl rfl (W := 0) rfl d1_6 (by decide) ?_
  rintro _ T3 L3 X3 ⟨x_4, rfl, N3q, K3q, f5, f6, f7, f8, f9⟩
  have N3 := Fr.app N0 N3q
  have z10 := K3q.1
  have K3 := K0.trans K3q (allS (Or.inl o_m0) all0)
  have z11 := o_lt f5.lt
  have z12 := o_lt f8.lt
  exact o_retV X3 B hret d1_9 (by decide) rfl ⟨x_4, rfl, N3, K3, f5, f6, f7, f8, (by omega)⟩
theorem o_rm42_s3 (hw : o_T Z a0) (Z0 : n0 ≤ h0.size) :
    M42' l Z (o_rm 0 0 0 0) #[(.int 66)] h0 (fun v h L => v = some (.int 132) ∧ Fr n0 L ∧ h = h0) := by
  refine o_start (plainFor_of_name o_pn0) (L0 := #[.val (.int 66)]) (fun _ => rfl) fun p e s m below meth c s₁ hx hby hml hown hnm hret hZ X0 e0 B H => ?_
  have N0 := Fr.nil n0
  have z0 : n0 ≤ h0.size := Z0
  refine xi X0 B d42_0 rfl ?_
  have hc1 : ¬ ((66 : Int32) < 0) := by decide
  refine xy X0 B 1 12 rfl d42_1 (XT.i0_ge_t hc1) (by decide) ?_
  refine xi X0 B d42_12 rfl ?_
  refine o_go (fun _ k => X0.ldcInt hx hown (mvT hZ (o_h hw 230 rfl)) (g := (mkF m 13 #[.val (.int 66)] [(.int 66)])) rfl (hb hby d42_13) _ k) ?_
  show o_Go _ _ _ _ s₁ (mkF m 15 #[.val (.int 66)] [(.int 1073741823), (.int 66)])
  have hc2 : (66 : Int32) < (1073741823 : Int32) := by decide
  refine xM X0 B 15 55 rfl d42_15 (XT.ii_lt_t hc2) (by decide) ?_
  refine xi X0 B d42_55 rfl ?_
  refine xc X0 B d42_56 1 rfl ?_
  refine xshl X0 B d42_57 (132) rfl ?_
  exact o_retI X0 B hret (Or.inl rfl) rfl d42_58 (by decide) e0 ⟨rfl, N0, rfl⟩
theorem o_rm41_s3 (hw : o_T Z a0) (Z0 : n0 ≤ h0.size) :
    M41' l Z (o_rm 1 1 132 12) #[(.int 66)] h0 (fun v h L => ∃ (x_0 : Addr), v = some (.ref x_0) ∧ Fr n0 L ∧ Keep h0 h [] ∧ o_AV Z h x_0 .byte (132 : Int32) (o_by (fun _ => 0)) ∧ (h0.size ≤ x_0)) := by
  refine o_start (plainFor_of_name o_pn0) (L0 := #[.val (.int 66)]) (fun _ => rfl) fun p e s m below meth c s₁ hx hby hml hown hnm hret hZ X0 e0 B H => ?_
  have N0 := Fr.nil n0
  have z0 : n0 ≤ h0.size := Z0
  have K0 : Keep h0 h0 [] := Keep.refl h0 _
  refine xi X0 B d41_0 rfl ?_
  refine o_cst X0 B H e0 (o_rm42_s3 (n0 := n0) hw (by omega)   ) (o_h hw 227 rfl) (o_h hw 228 rfl) (o_w213 hw) (o_h hw 229 rfl) rfl (lenOf o_pd5 rfl) rfl rfl (W := 0) rfl d41_1 (by decide) ?_
  rintro _ T1 L1 X1 ⟨rfl, N1q, e1⟩
  have N1 := Fr.app N0 N1q
  obtain ⟨T2, h2, k2, X2, e2, E2, A2, st2⟩ := newP X1 hx hZ (hw _ (List.mem_of_getElem? (i := 15) rfl)) e1 (g := (mkF m 4 #[.val (.int 66)] [(.int 132)])) rfl (hb hby d41_4) rfl (by decide) (cap := 132) (by decide) (by decide) (by decide) (by decide)
  obtain ⟨b2, g2⟩ : ∃ z, z = h0.size := ⟨_, rfl⟩
  rw [← g2] at A2 st2
  have z3 := E2.1
  have lt_b2 := o_lt A2.lt
  have K2 := K0.ext E2
  have V_b2 : o_AV Z h2 b2 .byte (132 : Int32) (o_by (fun _ => 0)) := o_AV.congr (o_AV.new A2 (by decide)) fun i _ => (o_by0 i).symm
  refine o_go st2 ?_
  exact o_retA X2 B hret rfl rfl rfl d41_6 (by decide) e2 ⟨b2, rfl, N1, K2, V_b2, (by omega)⟩
theorem o_t40_s3_0 (i8 : Nat) (hlt8 : i8 < 66) : (Int32.ofNat i8) < (66 : Int32) := by
  exact (o_ixb (n := 66) hlt8 (by decide)).2
theorem o_t40_s3_1   : ¬ ((Int32.ofNat 66) < (66 : Int32)) := by
  decide
theorem o_rm40_s3 (hw : o_T Z a0) (Z0 : n0 ≤ h0.size) (a_1 : Addr) (fa_a_1 : Nat → Int32) (j0 : o_AV Z h0 a_1 .char (66 : Int32) (o_ch fa_a_1)) (j1 : o_G Z h0) :
    M40' l Z (o_rm 2 1 132 24) #[(.ref a_1), (.int 0), (.int 66)] h0 (fun v h L => ∃ (x_0 : Addr), v = some (.ref x_0) ∧ Fr n0 L ∧ Keep h0 h [] ∧ o_AV Z h x_0 .byte (132 : Int32) (o_by (o_fill2 fa_a_1 (fun _ => 0) 66)) ∧ (h0.size ≤ x_0)) := by
  refine o_start (plainFor_of_name o_pn0) (L0 := #[.val (.ref a_1), .val (.int 0), .val (.int 66), .unset, .unset]) (fun _ => rfl) fun p e s m below meth c s₁ hx hby hml hown hnm hret hZ X0 e0 B H => ?_
  have N0 := Fr.nil n0
  have z0 : n0 ≤ h0.size := Z0
  have z1 := o_lt j0.lt
  have K0 : Keep h0 h0 [] := Keep.refl h0 _
  refine xi X0 B d40_0 rfl ?_
  refine o_cst X0 B H e0 (o_rm41_s3 (n0 := n0) hw (by omega)   ) (o_h hw 224 rfl) (o_h hw 225 rfl) (o_w213 hw) (o_h hw 226 rfl) rfl (lenOf o_pd6 rfl) rfl rfl (W := 0) rfl d40_1 (by decide) ?_
  rintro _ T2 L2 X2 ⟨x_3, rfl, N2q, K2q, f4, f5⟩
  have N2 := Fr.app N0 N2q
  have z6 := K2q.1
  have K2 := K0.trans K2q all0
  have z7 := o_lt f4.lt
  refine xt X2 B d40_4 rfl (l' := #[.val (.ref a_1), .val (.int 0), .val (.int 66), .val (.ref x_3), .unset]) rfl ?_
  refine xc X2 B d40_5 0 rfl ?_
  refine xS X2 B d40_6 (l' := #[.val (.ref a_1), .val (.int 0), .val (.int 66), .val (.ref x_3), .val (.int 0)]) rfl ?_
  have f9 := (j0.keep K2q nin0)
  have f10 := (j1.keep K2q all0)
  refine o_loop (n := 66) (Inv := fun iI TI gI => ∃ (LI : List Loc) (hI : Heap), Stand p l e (o_rm 2 1 132 24) s m #[(.ref a_1), (.int 0), (.int 66)] below meth c TI LI 1 132 ∧ TI.heap = hI ∧ Fr n0 LI ∧ Keep h0 hI [] ∧ o_AV Z hI a_1 .char (66 : Int32) (o_ch fa_a_1) ∧ o_G Z hI ∧ o_AV Z hI x_3 .byte (132 : Int32) (o_by (o_fill2 fa_a_1 (fun _ => 0) iI)) ∧ gI = mkF m 8 #[.val (.ref a_1), .val (.int (Int32.ofNat iI)), .val (.int 66), .val (.ref x_3), .val (.int (Int32.ofNat iI))] []) ?_ ?_ ⟨_, T2.heap, X2, rfl, N2, K2, f9, f10, (by rw [o_fill2_0]; exact f4), rfl⟩
  · rintro i8 T8a g8a hlt8 ⟨L8a, h8a, X8a, e8a, N8a, K8a, f8a_0, f8a_1, f8a_2, rfl⟩ ag8
    have z11 := K8a.1
    have z12 := o_lt f8a_0.lt
    have z13 := o_lt f8a_2.lt
    show o_Go _ _ _ _ T8a (mkF m 8 #[.val (.ref a_1), .val (.int (Int32.ofNat i8)), .val (.int 66), .val (.ref x_3), .val (.int (Int32.ofNat i8))] [])
    refine xI X8a B d40_8 rfl ?_
    refine xi X8a B d40_10 rfl ?_
    have hc14 : (Int32.ofNat i8) < (66 : Int32) := o_t40_s3_0 i8 hlt8
    refine xm X8a B d40_11 (XT.ii_ge_f hc14) ?_
    refine xa X8a B d40_14 rfl rfl ?_
    refine xI X8a B d40_15 rfl ?_
    refine xa X8a B d40_17 rfl rfl ?_
    refine xi X8a B d40_18 rfl ?_
    obtain ⟨q15, c15, R15, s15, t15⟩ := id f8a_0
    have hin15 : ¬ ((Int32.ofNat i8) < 0 ∨ c15.slots.size ≤ ((Int32.ofNat i8)).toNatClampNeg) := inb_of s15 (o_ixb (z := (66 : Int32)) (n := 66) (by omega) (by decide))
    have u15 : c15.slots[((Int32.ofNat i8)).toNatClampNeg]? = some (.int (fa_a_1 i8)) := o_at (k := i8) t15 s15 hin15 (o_tn (by omega)) (rfl)
    refine o_go (fun _ k => X8a.caload hx (j := (Int32.ofNat i8)) (v := (.int (fa_a_1 i8))) (by rw [e8a]; exact R15.1) (State.isArrayOf_alike hZ.alike R15.2.1) R15.2.2 hin15 u15 (g := (mkF m 19 #[.val (.ref a_1), .val (.int (Int32.ofNat i8)), .val (.int 66), .val (.ref x_3), .val (.int (Int32.ofNat i8))] [(.int (Int32.ofNat i8)), (.ref a_1), (.int (Int32.ofNat i8)), (.ref x_3)])) rfl rfl (hb hby d40_19) _ k) ?_
    show o_Go _ _ _ _ T8a (mkF m 20 #[.val (.ref a_1), .val (.int (Int32.ofNat i8)), .val (.int 66), .val (.ref x_3), .val (.int (Int32.ofNat i8))] [(.int (fa_a_1 i8)), (.int (Int32.ofNat i8)), (.ref x_3)])
    refine o_cst X8a B H e8a (o_rm43 (n0 := n0) hw (by omega) x_3 (Int32.ofNat i8) (fa_a_1 i8) (o_fill2 fa_a_1 (fun _ => 0) i8) (132 : Int32) i8 f8a_1 f8a_2 rfl (o_hb (n := 132) (by decide) (by omega)) (by omega)) (o_h hw 231 rfl) (o_h hw 232 rfl) (o_w213 hw) (o_h hw 233 rfl) rfl (lenOf o_pd7 rfl) rfl rfl (W := 0) rfl d40_20 (by decide) ?_
    rintro _ T16 L16 X16 ⟨rfl, N16q, K16q, f17⟩
    have N16 := Fr.app N8a N16q
    have z18 := K16q.1
    have K16 := K8a.trans K16q (allS (Or.inr (by omega)) all0)
    have z19 := o_lt f17.lt
    refine o_go (fun _ k => XS.iinc X16.here hx rfl (hb hby d40_23) rfl (l' := #[.val (.ref a_1), .val (.int ((Int32.ofNat i8) + (1 : Int32))), .val (.int 66), .val (.ref x_3), .val (.int (Int32.ofNat i8))]) rfl k) ?_
    show o_Go _ _ _ _ T16 (mkF m 26 #[.val (.ref a_1), .val (.int ((Int32.ofNat i8) + (1 : Int32))), .val (.int 66), .val (.ref x_3), .val (.int (Int32.ofNat i8))] [])
    rw [o_inc]
    show o_Go _ _ _ _ T16 (mkF m 26 #[.val (.ref a_1), .val (.int (Int32.ofNat (i8 + 1))), .val (.int 66), .val (.ref x_3), .val (.int (Int32.ofNat i8))] [])
    refine o_go (fun _ k => XS.iinc X16.here hx rfl (hb hby d40_26) rfl (l' := #[.val (.ref a_1), .val (.int (Int32.ofNat (i8 + 1))), .val (.int 66), .val (.ref x_3), .val (.int ((Int32.ofNat i8) + (1 : Int32)))]) rfl k) ?_
    show o_Go _ _ _ _ T16 (mkF m 29 #[.val (.ref a_1), .val (.int (Int32.ofNat (i8 + 1))), .val (.int 66), .val (.ref x_3), .val (.int ((Int32.ofNat i8) + (1 : Int32)))] [])
    rw [o_inc]
    show o_Go _ _ _ _ T16 (mkF m 29 #[.val (.ref a_1), .val (.int (Int32.ofNat (i8 + 1))), .val (.int 66), .val (.ref x_3), .val (.int (Int32.ofNat (i8 + 1)))] [])
    refine xg X16 B 29 8 rfl d40_29 (by decide) ?_
    have f20 := (f8a_0.keep K16q (ninS (o_ne (by omega)) nin0))
    have f21 := (f8a_1.keep K16q (allS (o_AV.plain f8a_2) all0))
    exact ag8 _ _ ⟨_, T16.heap, X16, rfl, N16, K16, f20, f21, (by rw [← o_fill2_s]; exact f17), rfl⟩
  · rintro T8b g8b ⟨L8b, h8b, X8b, e8b, N8b, K8b, f8b_0, f8b_1, f8b_2, rfl⟩
    have z22 := K8b.1
    have z23 := o_lt f8b_0.lt
    have z24 := o_lt f8b_2.lt
    show o_Go _ _ _ _ T8b (mkF m 8 #[.val (.ref a_1), .val (.int (Int32.ofNat 66)), .val (.int 66), .val (.ref x_3), .val (.int (Int32.ofNat 66))] [])
    refine xI X8b B d40_8 rfl ?_
    refine xi X8b B d40_10 rfl ?_
    have hc25 : ¬ ((Int32.ofNat 66) < (66 : Int32)) := o_t40_s3_1  
    refine xM X8b B 11 32 rfl d40_11 (XT.ii_ge_t hc25) (by decide) ?_
    refine xa X8b B d40_32 rfl rfl ?_
    exact o_retA X8b B hret rfl rfl rfl d40_33 (by decide) e8b ⟨x_3, rfl, N8b, K8b, f8b_2, (by omega)⟩
theorem o_t37_U66_0 (g : Nat → Int32) (kk : Nat) (hle : ∀ i, i < kk → ¬ ((255 : Int32) < (g i))) (hwt : (255 : Int32) < (g kk)) (hkn : kk < 66) (hchr : (g kk).toUInt32.toUInt16.toUInt32.toInt32 = g kk) : ¬ ((Int32.ofNat kk) = (66 : Int32)) := by
  exact o_nek hkn (by decide)
theorem o_t37_U66_1 (g : Nat → Int32) (kk : Nat) (hle : ∀ i, i < kk → ¬ ((255 : Int32) < (g i))) (hwt : (255 : Int32) < (g kk)) (hkn : kk < 66) (hchr : (g kk).toUInt32.toUInt16.toUInt32.toInt32 = g kk) (hc9 : ¬ ((Int32.ofNat kk) = (66 : Int32))) : (255 : Int32) < (o_gc (o_fill2 g (fun _ => 0) 66) kk) := by
  rw [o_gcf _ _ hkn, hchr]; exact hwt
theorem o_rm37_U66 (hw : o_T Z a0) (Z0 : n0 ≤ h0.size) (a_1 : Addr) (g : Nat → Int32) (kk : Nat) (j0 : o_G Z h0) (j1 : o_AV Z h0 a_1 .char (66 : Int32) (o_ch g)) (hle : ∀ i, i < kk → ¬ ((255 : Int32) < (g i))) (hwt : (255 : Int32) < (g kk)) (hkn : kk < 66) (hchr : (g kk).toUInt32.toUInt16.toUInt32.toInt32 = g kk) :
    M37' l Z (o_rm 3 2 198 40) #[(.ref a_1), (.int 0), (.int 66)] h0 (fun v h L => ∃ (x_0 : Addr), v = some (.ref x_0) ∧ Fr n0 L ∧ Keep h0 h [] ∧ o_AV Z h x_0 .byte (132 : Int32) (o_by (o_fill2 g (fun _ => 0) 66)) ∧ (h0.size ≤ x_0)) := by
  refine o_start (plainFor_of_name o_pn0) (L0 := #[.val (.ref a_1), .val (.int 0), .val (.int 66), .unset, .unset, .unset]) (fun _ => rfl) fun p e s m below meth c s₁ hx hby hml hown hnm hret hZ X0 e0 B H => ?_
  have N0 := Fr.nil n0
  have z0 : n0 ≤ h0.size := Z0
  have z1 := o_lt j1.lt
  have K0 : Keep h0 h0 [] := Keep.refl h0 _
  refine xi X0 B d37_0 rfl ?_
  obtain ⟨T2, h2, k2, X2, e2, E2, A2, st2⟩ := newP X0 hx hZ (hw _ (List.mem_of_getElem? (i := 15) rfl)) e0 (g := (mkF m 1 #[.val (.ref a_1), .val (.int 0), .val (.int 66), .unset, .unset, .unset] [(.int 66)])) rfl (hb hby d37_1) rfl (by decide) (cap := 66) (by decide) (by decide) (by decide) (by decide)
  obtain ⟨b2, g2⟩ : ∃ z, z = h0.size := ⟨_, rfl⟩
  rw [← g2] at A2 st2
  have z3 := E2.1
  have lt_b2 := o_lt A2.lt
  have K2 := K0.ext E2
  have V_b2 : o_AV Z h2 b2 .byte (66 : Int32) (o_by (fun _ => 0)) := o_AV.congr (o_AV.new A2 (by decide)) fun i _ => (o_by0 i).symm
  refine o_go st2 ?_
  refine xt X2 B d37_3 rfl (l' := #[.val (.ref a_1), .val (.int 0), .val (.int 66), .val (.ref b2), .unset, .unset]) rfl ?_
  refine xa X2 B d37_4 rfl rfl ?_
  refine xi X2 B d37_5 rfl ?_
  refine xa X2 B d37_6 rfl rfl ?_
  refine xc X2 B d37_7 0 rfl ?_
  refine xi X2 B d37_8 rfl ?_
  have f4 := (j1.ext E2)
  refine o_cst X2 B H e2 (o_rm38 (n0 := n0) hw (by omega) a_1 b2 (66 : Int32) g (fun _ => 0) kk f4 V_b2 hle (o_hbl (n := 66) (by decide) (by omega)) (fun _ => hwt) (o_ne (by omega)) (by decide) (by omega) (by omega)) (o_h hw 215 rfl) (o_h hw 216 rfl) (o_w213 hw) (o_h hw 217 rfl) rfl (lenOf o_pd1 rfl) rfl rfl (W := 0) rfl d37_9 (by decide) ?_
  rintro _ T5 L5 X5 ⟨rfl, N5q, K5q, f6⟩
  have N5 := Fr.app N0 N5q
  have z7 := K5q.1
  have K5 := K2.trans K5q (allS (Or.inr (by omega)) all0)
  have z8 := o_lt f6.lt
  refine xS X5 B d37_12 (l' := #[.val (.ref a_1), .val (.int 0), .val (.int 66), .val (.ref b2), .val (.int (Int32.ofNat kk)), .unset]) rfl ?_
  refine xI X5 B d37_14 rfl ?_
  refine xi X5 B d37_16 rfl ?_
  have hc9 : ¬ ((Int32.ofNat kk) = (66 : Int32)) := o_t37_U66_0 g kk hle hwt hkn hchr
  refine xm X5 B d37_17 (XT.ii_eq_f hc9) ?_
  refine xa X5 B d37_20 rfl rfl ?_
  refine xi X5 B d37_21 rfl ?_
  refine xi X5 B d37_22 rfl ?_
  have f10 := (f4.keep K5q (ninS (o_ne (by omega)) nin0))
  have f11 := ((j0.ext E2).keep K5q (allS (o_AV.plain V_b2) all0))
  refine o_cst X5 B H rfl (o_rm40_s3 (n0 := n0) hw (by omega) a_1 g f10 f11) (o_h hw 221 rfl) (o_h hw 222 rfl) (o_w213 hw) (o_h hw 223 rfl) rfl (lenOf o_pd2 rfl) rfl rfl (W := 0) rfl d37_23 (by decide) ?_
  rintro _ T12 L12 X12 ⟨x_13, rfl, N12q, K12q, f14, f15⟩
  have N12 := Fr.app N5 N12q
  have z16 := K12q.1
  have K12 := K5.trans K12q all0
  have z17 := o_lt f14.lt
  refine xT X12 B d37_26 rfl (l' := #[.val (.ref a_1), .val (.int 0), .val (.int 66), .val (.ref b2), .val (.int (Int32.ofNat kk)), .val (.ref x_13)]) rfl ?_
  refine xA X12 B d37_28 rfl rfl ?_
  refine xI X12 B d37_30 rfl ?_
  have f18 := (f11.keep K12q all0)
  refine o_cst X12 B H rfl (o_rm44 (n0 := n0) hw (by omega) x_13 (Int32.ofNat kk) (o_fill2 g (fun _ => 0) 66) (132 : Int32) kk f18 f14 rfl (o_hb (n := 132) (by decide) (by omega))) (o_h hw 237 rfl) (o_h hw 238 rfl) (o_w213 hw) (o_h hw 239 rfl) rfl (lenOf o_pd8 rfl) rfl rfl (W := 0) rfl d37_32 (by decide) ?_
  rintro _ T19 L19 X19 ⟨rfl, N19q, e19⟩
  have N19 := Fr.app N12 N19q
  refine xh X19 B d37_35 255 rfl ?_
  have hc20 : (255 : Int32) < (o_gc (o_fill2 g (fun _ => 0) 66) kk) := o_t37_U66_1 g kk hle hwt hkn hchr hc9
  refine xM X19 B 38 54 rfl d37_38 (XT.ii_gt_t hc20) (by decide) ?_
  refine xA X19 B d37_54 rfl rfl ?_
  exact o_retA X19 B hret rfl rfl rfl d37_56 (by decide) e19 ⟨x_13, rfl, N19, K12, f14, (by omega)⟩
theorem o_rm39_s6 (hw : o_T Z a0) (Z0 : n0 ≤ h0.size) (a_1 : Addr) (fa_a_1 : Nat → Int32) (j0 : o_AV Z h0 a_1 .byte (132 : Int32) (o_by fa_a_1)) :
    M39' l Z (o_rm 0 0 0 0) #[(.ref a_1), (.int 66)] h0 (fun v h L => v = some (.int 1) ∧ Fr n0 L ∧ h = h0) := by
  refine o_start (plainFor_of_name o_pn0) (L0 := #[.val (.ref a_1), .val (.int 66)]) (fun _ => rfl) fun p e s m below meth c s₁ hx hby hml hown hnm hret hZ X0 e0 B H => ?_
  have N0 := Fr.nil n0
  have z0 : n0 ≤ h0.size := Z0
  have z1 := o_lt j0.lt
  refine xi X0 B d39_0 rfl ?_
  refine xa X0 B d39_1 rfl rfl ?_
  refine xl X0 B H e0 j0 d39_2 ?_
  refine xsub X0 B d39_3 (-66) rfl ?_
  refine xb X0 B d39_4 31 rfl ?_
  refine o_go (fun _ k => XS.iushr X0.here hx rfl (hb hby d39_6) rfl k) ?_
  show o_Go _ _ _ _ s₁ (mkF m 7 #[.val (.ref a_1), .val (.int 66)] [(.int 1)])
  refine o_go (fun _ k => XS.i2b X0.here hx rfl (hb hby d39_7) rfl k) ?_
  show o_Go _ _ _ _ s₁ (mkF m 8 #[.val (.ref a_1), .val (.int 66)] [(.int 1)])
  exact o_retI X0 B hret (Or.inr (Or.inr (Or.inl rfl))) rfl d39_8 (by decide) e0 ⟨rfl, N0, rfl⟩
theorem o_rm2_U66 (hw : o_T Z a0) (Z0 : n0 ≤ h0.size) (a_1 a_2 : Addr) (g : Nat → Int32) (kk : Nat) (u_0 u_1 : Value) (j0 : o_G Z h0) (j1 : o_E0 Z h0 a_1) (j2 : o_F2 Z h0 a_1 u_0) (j3 : o_F1 Z h0 a_1 u_1) (j4 : o_AV Z h0 a_2 .char (66 : Int32) (o_ch g)) (hle : ∀ i, i < kk → ¬ ((255 : Int32) < (g i))) (hwt : (255 : Int32) < (g kk)) (hkn : kk < 66) (hchr : (g kk).toUInt32.toUInt16.toUInt32.toInt32 = g kk) (hd_a_1_a_2 : o_df a_1 a_2) (gw_a_1 : n0 ≤ a_1) :
    M2' l Z (o_rm 4 2 198 57) #[(.ref a_1), (.ref a_2), (.int 0), (.int 66), .null] h0 (fun v h L => ∃ (x_0 : Addr), v = none ∧ Fr n0 L ∧ Keep h0 h [a_1] ∧ o_E0 Z h a_1 ∧ o_F2 Z h a_1 (.ref x_0) ∧ o_F1 Z h a_1 (.int 1) ∧ o_AV Z h x_0 .byte (132 : Int32) (o_by (o_fill2 g (fun _ => 0) 66)) ∧ (h0.size ≤ x_0)) := by
  refine o_start (plainFor_of_name o_pn2) (L0 := #[.val (.ref a_1), .val (.ref a_2), .val (.int 0), .val (.int 66), .val .null, .unset]) (fun _ => rfl) fun p e s m below meth c s₁ hx hby hml hown hnm hret hZ X0 e0 B H => ?_
  have N0 := Fr.nil n0
  have z0 : n0 ≤ h0.size := Z0
  have z1 := o_lt j1.lt
  have z2 := o_lt j4.lt
  have K0 : Keep h0 h0 [a_1] := Keep.refl h0 _
  refine xa X0 B d2_0 rfl rfl ?_
  obtain ⟨T3, X3, e3, st3⟩ := initO X0 hx hZ hown (o_w11 hw) (o_w12 hw) (o_w13 hw) e0 (g := (mkF m 1 #[.val (.ref a_1), .val (.ref a_2), .val (.int 0), .val (.int 66), .val .null, .unset] [(.ref a_1)])) rfl (by rw [hml]; rfl) rfl (hb hby d2_1) (by decide) (W := 0) (by show 2 * 0 + _ ≤ _; exact Nat.le_of_eq rfl) (by decide)
  refine o_go st3 ?_
  refine xi X3 B d2_4 rfl ?_
  have hc4 : ¬ ((66 : Int32) = 0) := by decide
  refine xy X3 B 5 27 rfl d2_5 (XT.i0_ne_t hc4) (by decide) ?_
  refine o_gs X3 B H (o_w70 hw) e3 j0.1 d2_27 fun T5 X5 e5 => ?_
  refine xn X5 B d2_30 (XT.i0_eq_f (o_hcs j0)) ?_
  refine xa X5 B d2_33 rfl rfl ?_
  refine xi X5 B d2_34 rfl ?_
  refine xi X5 B d2_35 rfl ?_
  refine o_cst X5 B H e5 (o_rm37_U66 (n0 := n0) hw (by omega) a_2 g kk j0 j4 (show ∀ i, i < kk → ¬ ((255 : Int32) < (g i)) by first | assumption | omega | decide) (show (255 : Int32) < (g kk) by first | assumption | omega | decide) (show kk < 66 by first | assumption | omega | decide) (show (g kk).toUInt32.toUInt16.toUInt32.toInt32 = g kk by first | assumption | omega | decide)) (o_h hw 211 rfl) (o_h hw 212 rfl) (o_w213 hw) (o_h hw 214 rfl) rfl (lenOf o_pd2 rfl) rfl rfl (W := 0) rfl d2_36 (by decide) ?_
  rintro _ T7 L7 X7 ⟨x_8, rfl, N7q, K7q, f9, f10⟩
  have N7 := Fr.app N0 N7q
  have z11 := K7q.1
  have K7 := K0.trans K7q all0
  have z12 := o_lt f9.lt
  refine xT X7 B d2_39 rfl (l' := #[.val (.ref a_1), .val (.ref a_2), .val (.int 0), .val (.int 66), .val .null, .val (.ref x_8)]) rfl ?_
  refine xa X7 B d2_41 rfl rfl ?_
  refine xA X7 B d2_42 rfl rfl ?_
  refine xi X7 B d2_44 rfl ?_
  refine o_cst X7 B H rfl (o_rm39_s6 (n0 := n0) hw (by omega) x_8 (o_fill2 g (fun _ => 0) 66) f9) (o_h hw 218 rfl) (o_h hw 219 rfl) (o_w213 hw) (o_h hw 220 rfl) rfl (lenOf o_pd3 rfl) rfl rfl (W := 1) rfl d2_45 (by decide) ?_
  rintro _ T13 L13 X13 ⟨rfl, N13q, e13⟩
  have N13 := Fr.app N7 N13q
  have f14 := (j1.keep K7q)
  have f15 := (j3.keep K7q nin0)
  obtain ⟨T16, h16, X16, e16, W16, st16⟩ := putFN X13 hx hZ hown (o_w21 hw) Via.refl e13 f15 f14 (Or.inr ⟨(o_w17 hw), rfl, hnm⟩) (o_w1 hw) (ty := .byte) (v' := .int 1) (by decide) (rfl) (fits_nar_byte (1 : Int32)) (g := (mkF m 48 #[.val (.ref a_1), .val (.ref a_2), .val (.int 0), .val (.int 66), .val .null, .val (.ref x_8)] [(.int 1), (.ref a_1)])) rfl rfl (hb hby d2_48)
  have z17 := W16.size
  have K16 := K7.wr W16 (Or.inl o_m0)
  have N16 := Fr.snoc X16 N13 (by omega : n0 ≤ a_1)
  have Fw16 : o_F1 Z h16 a_1 (.int 1) := Fld.same W16 f15
  refine o_go st16 ?_
  refine xa X16 B d2_51 rfl rfl ?_
  refine xA X16 B d2_52 rfl rfl ?_
  have f18 := (f14.wr W16)
  have f19 := ((j2.keep K7q nin0).other W16 (Or.inr (slot_ne (Or.inr (o_w16 hw)) (Or.inr (o_w17 hw)) (by decide) (t := (.array .byte)) (t' := .byte) (by decide) (by decide))))
  obtain ⟨T20, h20, X20, e20, W20, st20⟩ := putF X16 hx hZ hown (host := "") (Or.inl (o_w20 hw)) Via.refl e16 f19 f18 (Or.inr ⟨(o_w16 hw), rfl, hnm⟩) (o_w1 hw) (ty := (.array .byte)) (by decide) rfl rfl (g := (mkF m 54 #[.val (.ref a_1), .val (.ref a_2), .val (.int 0), .val (.int 66), .val .null, .val (.ref x_8)] [(.ref x_8), (.ref a_1)])) rfl rfl (hb hby d2_54)
  have z21 := W20.size
  have K20 := K16.wr W20 (Or.inl o_m0)
  have N20 := Fr.snoc X20 N16 (by omega : n0 ≤ a_1)
  have Fw20 : o_F2 Z h20 a_1 (.ref x_8) := Fld.same W20 f19
  refine o_go st20 ?_
  have f23 := (f18.wr W20)
  have f24 := (Fw16.other W20 (Or.inr (slot_ne (Or.inr (o_w17 hw)) (Or.inr (o_w16 hw)) (by decide) (t := .byte) (t' := (.array .byte)) (by decide) (by decide))))
  have f25 := ((f9.other W16 (o_ne (by omega))).other W20 (o_ne (by omega)))
  exact o_retV X20 B hret d2_57 (by decide) e20 ⟨x_8, rfl, N20, K20, f23, Fw20, f24, f25, (by omega)⟩
theorem o_rm1_U66 (hw : o_T Z a0) (Z0 : n0 ≤ h0.size) (a_1 a_2 : Addr) (g : Nat → Int32) (kk : Nat) (u_0 u_1 : Value) (j0 : o_G Z h0) (j1 : o_E0 Z h0 a_1) (j2 : o_F2 Z h0 a_1 u_0) (j3 : o_F1 Z h0 a_1 u_1) (j4 : o_AV Z h0 a_2 .char (66 : Int32) (o_ch g)) (hle : ∀ i, i < kk → ¬ ((255 : Int32) < (g i))) (hwt : (255 : Int32) < (g kk)) (hkn : kk < 66) (hchr : (g kk).toUInt32.toUInt16.toUInt32.toInt32 = g kk) (hd_a_1_a_2 : o_df a_1 a_2) (gw_a_1 : n0 ≤ a_1) :
    M1' l Z (o_rm 5 2 198 74) #[(.ref a_1), (.ref a_2)] h0 (fun v h L => ∃ (x_0 : Addr), v = none ∧ Fr n0 L ∧ Keep h0 h [a_1] ∧ o_E0 Z h a_1 ∧ o_F2 Z h a_1 (.ref x_0) ∧ o_F1 Z h a_1 (.int 1) ∧ o_AV Z h x_0 .byte (132 : Int32) (o_by (o_fill2 g (fun _ => 0) 66)) ∧ (h0.size ≤ x_0)) := by
  refine o_start (plainFor_of_name o_pn2) (L0 := #[.val (.ref a_1), .val (.ref a_2)]) (fun _ => rfl) fun p e s m below meth c s₁ hx hby hml hown hnm hret hZ X0 e0 B H => ?_
  have N0 := Fr.nil n0
  have z0 : n0 ≤ h0.size := Z0
  have z1 := o_lt j1.lt
  have z2 := o_lt j4.lt
  have K0 : Keep h0 h0 [a_1] := Keep.refl h0 _
  refine xa X0 B d1_0 rfl rfl ?_
  refine xa X0 B d1_1 rfl rfl ?_
  refine xc X0 B d1_2 0 rfl ?_
  refine xa X0 B d1_3 rfl rfl ?_
  refine xl X0 B H e0 j4 d1_4 ?_
  refine xu X0 B d1_5 ?_
  refine o_csp (a := a_1) X0 B H e0 (o_rm2_U66 (n0 := n0) hw (by omega) a_1 a_2 g kk u_0 u_1 j0 j1 j2 j3 j4 (show ∀ i, i < kk → ¬ ((255 : Int32) < (g i)) by first | assumption | omega | decide) (show (255 : Int32) < (g kk) by first | assumption | omega | decide) (show kk < 66 by first | assumption | omega | decide) (show (g kk).toUInt32.toUInt16.toUInt32.toInt32 = g kk by first | assumption | omega | decide) hd_a_1_a_2 (by omega)) (o_h hw 7 rfl) (o_h hw 8 rfl) (o_w2 hw) (o_h hw 10 rfl) rfl rfl (lenOf o_pd4 rfl) rfl rfl (W := 0) rfl d1_6 (by decide) ?_
  rintro _ T3 L3 X3 ⟨x_4, rfl, N3q, K3q, f5, f6, f7, f8, f9⟩
  have N3 := Fr.app N0 N3q
  have z10 := K3q.1
  have K3 := K0.trans K3q (allS (Or.inl o_m0) all0)
  have z11 := o_lt f5.lt
  have z12 := o_lt f8.lt
  exact o_retV X3 B hret d1_9 (by decide) rfl ⟨x_4, rfl, N3, K3, f5, f6, f7, f8, (by omega)⟩
theorem d2_8 : decode c2' 8 = .ok (.aload_n 0, 1) := by decide +kernel
theorem d2_9 : decode c2' 9 = .ok (.ldc 7, 2) := by decide +kernel
theorem d2_11 : decode c2' 11 = .ok (.getfield 9, 3) := by decide +kernel
theorem d2_14 : decode c2' 14 = .ok (.putfield 9, 3) := by decide +kernel
theorem d2_17 : decode c2' 17 = .ok (.aload_n 0, 1) := by decide +kernel
theorem d2_18 : decode c2' 18 = .ok (.ldc 7, 2) := by decide +kernel
theorem d2_20 : decode c2' 20 = .ok (.getfield 15, 3) := by decide +kernel
theorem d2_23 : decode c2' 23 = .ok (.putfield 15, 3) := by decide +kernel
theorem d2_26 : decode c2' 26 = .ok (.return_, 1) := by decide +kernel
theorem o_ef_own_rm2_k0 (m : MethodId) (x0 : Addr) (x1 : Addr) : entryFrame m #[(.ref x0), (.ref x1), (.int 0), (.int 0), .null] 6 = mkF m 0 #[.val (.ref x0), .val (.ref x1), .val (.int 0), .val (.int 0), .val .null, .unset] [] := by first | (simp [entryFrame, mkF, argsToLocals, Value.category]; done) | rfl
def o_Q2_k0 (Z : State) (a_1 : Addr) (a_2 : Addr) (g : Nat → Int32) (u_0 : Value) (u_1 : Value) (h0 : Heap) (n0 : Nat) (v : Option Value) (h : Heap) (L : List Loc) : Prop := ∃ (x_0 : Addr), v = none ∧ Fr n0 L ∧ Keep h0 h [a_1] ∧ o_E0 Z h a_1 ∧ o_F2 Z h a_1 (.ref x_0) ∧ o_F1 Z h a_1 (.int 0) ∧ o_AV Z h x_0 .byte (0 : Int32) (o_by (o_ls []))
theorem o_rm2_k0 (l : Launch) (Z : State) (a0 : Array Value) (hw : ∀ d ∈ tables_1, d.before a0 Z = true) (ws : List Jvm.Cond) (a_1 : Addr) (a_2 : Addr) (g : Nat → Int32) (u_0 : Value) (u_1 : Value) (h0 : Heap) (n0 : Nat) (Z0 : n0 ≤ h0.size) (j0 : o_E0 Z h0 a_1) (j1 : o_F2 Z h0 a_1 u_0) (j2 : o_F1 Z h0 a_1 u_1) (j3 : o_AV Z h0 a_2 .char (0 : Int32) (o_ch g)) (hold : o_old Z h0) (hgz : Z.heap.size ≤ n0) (hd_a_1_a_2 : o_df a_1 a_2) (gw_a_1 : n0 ≤ a_1) :
    MetFree l (⟨"java/lang/String", "<init>", "([CIILjava/lang/Void;)V"⟩ : MethodName) (head1 (Jvm.Cond.code (⟨"java/lang/String", "<init>", "([CIILjava/lang/Void;)V"⟩ : MethodName) jdk_42_method_149_code 6 none :: ws) ({ frames := 1, cells := 2, slots := 4, locals := 12 } : Room)) (fun a U => a = #[(.ref a_1), (.ref a_2), (.int 0), (.int 0), .null] ∧ Z.Warmed39 U.vm ∧ U.heap = h0 ∧ (fun vm : Vm => Jvm.ConstHeldL (Z.setVm vm) "java/lang/String" 7 ∧ Jvm.ConstHeldL (Z.setVm vm) "com/example/orderly_storefront/orderlystorefront/cart/CartException" 25 ∧ Jvm.ConstHeldL (Z.setVm vm) "com/example/orderly_storefront/orderlystorefront/cart/CartException" 31 ∧ Jvm.ConstHeldL (Z.setVm vm) "com/example/orderly_storefront/orderlystorefront/cart/CartExceptionInvalidQuantityPinLaw" 28) U.vm) (fun _ _ _ _ _ => True) (fun _ U o U' => ∃ v L, o = .returned v ∧ (o_Q2_k0 Z a_1 a_2 g u_0 u_1 h0 n0 v U'.heap L ∧ (fun vm : Vm => Jvm.ConstHeldL (Z.setVm vm) "com/example/orderly_storefront/orderlystorefront/cart/CartException" 25 ∧ Jvm.ConstHeldL (Z.setVm vm) "com/example/orderly_storefront/orderlystorefront/cart/CartException" 31 ∧ Jvm.ConstHeldL (Z.setVm vm) "com/example/orderly_storefront/orderlystorefront/cart/CartExceptionInvalidQuantityPinLaw" 28) U'.vm) ∧ ReturnedEndW U o U' L ({ frames := 1, cells := 2, slots := 4, locals := 12 } : Room).cells ({ frames := 1, cells := 2, slots := 4, locals := 12 } : Room).slots) := by
  refine MetFree.of_bodySF (plainFor_of_name o_pn2) hisR ?_
  intro p e s m args below meth c s₁ Bd hml0 hP hK
  obtain ⟨rfl, hZ, hh, ⟨hp0, hp1, hp2, hp3⟩⟩ := hP
  have hx := Bd.exec
  have hby := Bd.bytes
  have hml : c.maxLocals = 6 := hml0
  have hown : s.vm.findClass "java/lang/String" = some m.cls := findClass_of_methodNamed Bd.named
  have hnm := (name_of_methodNamed Bd.named Bd.method).1
  have X0 : Stand p l e ({ frames := 1, cells := 2, slots := 4, locals := 12 } : Room) s m #[(.ref a_1), (.ref a_2), (.int 0), (.int 0), .null] below meth c s₁ [] 0 0 := Stand.of_body Bd
  have e0 : s₁.heap = h0 := by rw [← hh, Bd.state]; rfl
  have N0 := Fr.nil n0
  have B : o_C p c _ := ⟨hx, hby⟩
  have H : o_H s Z m _ c _ := ⟨hZ, hown, hml⟩
  have X0 : Stand p l e ({ frames := 1, cells := 2, slots := 4, locals := 12 } : Room) (s.setVm s.vm) m #[(.ref a_1), (.ref a_2), (.int 0), (.int 0), .null] below meth c s₁ [] 0 0 := X0
  have hZ : Z.Warmed39 (s.setVm s.vm).vm := hZ
  have hown : (s.setVm s.vm).vm.findClass "java/lang/String" = some m.cls := hown
  have hS0 : s.Since s.vm 0 := (State.WarmedH.refl s).since 0
  have H : o_H _ Z m _ c _ := ⟨hZ, hown, hml⟩
  have z0 : n0 ≤ h0.size := Z0
  have z1 := o_lt j0.lt
  have z2 := o_lt j3.lt
  have K0 : Keep h0 h0 [a_1] := Keep.refl h0 _
  show o_Go p.tables e below (fun t o => t.status = .running ∧ Ended t below o ∧ ∃ v L, o = .returned v ∧ (o_Q2_k0 Z a_1 a_2 g u_0 u_1 h0 n0 v t.heap L ∧ (fun vm : Vm => Jvm.ConstHeldL (Z.setVm vm) "com/example/orderly_storefront/orderlystorefront/cart/CartException" 25 ∧ Jvm.ConstHeldL (Z.setVm vm) "com/example/orderly_storefront/orderlystorefront/cart/CartException" 31 ∧ Jvm.ConstHeldL (Z.setVm vm) "com/example/orderly_storefront/orderlystorefront/cart/CartExceptionInvalidQuantityPinLaw" 28) t.vm) ∧ ReturnedEndW s o t L ({ frames := 1, cells := 2, slots := 4, locals := 12 } : Room).cells ({ frames := 1, cells := 2, slots := 4, locals := 12 } : Room).slots) s₁ (entryFrame m #[(.ref a_1), (.ref a_2), (.int 0), (.int 0), .null] 6)
  rw [o_ef_own_rm2_k0 m a_1 a_2]
  show o_Go _ _ _ _ s₁ (mkF m 0 #[.val (.ref a_1), .val (.ref a_2), .val (.int 0), .val (.int 0), .val .null, .unset] [])
  refine xa X0 B d2_0 rfl rfl ?_
  obtain ⟨T3, X3, e3, st3⟩ := initO X0 hx hZ hown (o_w11 hw) (o_w12 hw) (o_w13 hw) e0 (g := (mkF m 1 #[.val (.ref a_1), .val (.ref a_2), .val (.int 0), .val (.int 0), .val .null, .unset] [(.ref a_1)])) rfl (by rw [hml]; rfl) rfl (hb hby d2_1) (by decide) (W := 0) (by show 2 * 0 + _ ≤ _; exact Nat.le_of_eq rfl) (by decide)
  refine o_go st3 ?_
  refine xi X3 B d2_4 rfl ?_
  have hc4 : (0 : Int32) = 0 := by decide
  refine xn X3 B d2_5 (XT.i0_ne_f hc4) ?_
  refine xa X3 B d2_8 rfl rfl ?_
  have hZ5 := hZ
  obtain ⟨b5, c5, T5, h5, k5, X5, e5, E5, hS5, g5, hZ, hown, Li5, Wn5, Hi5, Ex5, Fv5, Fc5, Av5, sp5, st5⟩ := o_ldcC X3 hx hZ hown (o_h hw 14 rfl) (o_wS hw) (o_w16 hw) (o_w17 hw) e3 hS0 (by omega) N0 (Or.inr rfl) hp0 (by rw [hh]; exact hold) (bs := []) (z := (0 : Int32)) (by decide +kernel) (fun _ q => o_lb0 q) (by decide +kernel) (by decide) (by decide) (g := (mkF m 9 #[.val (.ref a_1), .val (.ref a_2), .val (.int 0), .val (.int 0), .val .null, .unset] [(.ref a_1)])) rfl (hb hby d2_9) (n := 0) (by decide +kernel) (by decide) (by decide) (by decide)
  have z6 := E5.1
  rw [hh] at sp5; unfold o_sep at sp5
  have N5 := Fr.nil n0
  have H : o_H _ Z m _ c _ := ⟨hZ, hown, hml⟩
  have Hh7 := o_carry (s := s) hZ5 (o_w49 hw) Wn5 (o_hint (by decide) Hi5) hp1
  have Hh8 := o_carry (s := s) hZ5 (o_w121 hw) Wn5 (o_hint (by decide) Hi5) hp2
  have Hh9 := o_carry (s := s) hZ5 (o_w194 hw) Wn5 (o_hint (by decide) Hi5) hp3
  have z10 := o_lt Ex5.lt
  have z11 := o_lt Av5.lt
  have K5 := K0.ext E5
  refine o_go st5 ?_
  refine o_gf X5 B H (o_w20 hw) e5 Fv5 d2_11 fun T12 X12 e12 => ?_
  have f13 := (j0.ext E5)
  have f14 := (j1.ext E5)
  obtain ⟨T15, h15, X15, e15, W15, st15⟩ := putF X12 hx hZ hown (host := "") (Or.inl (o_w20 hw)) Via.refl e12 f14 f13 (Or.inr ⟨(o_w16 hw), rfl, hnm⟩) (o_w1 hw) (ty := (.array .byte)) (by decide) rfl rfl (g := (mkF m 14 #[.val (.ref a_1), .val (.ref a_2), .val (.int 0), .val (.int 0), .val .null, .unset] [(.ref c5), (.ref a_1)])) rfl rfl (hb hby d2_14)
  have z16 := W15.size
  have K15 := K5.wr W15 (Or.inl o_m0)
  have N15 := Fr.snoc X15 N5 (by omega : n0 ≤ a_1)
  have Fw15 : o_F2 Z h15 a_1 (.ref c5) := Fld.same W15 f14
  refine o_go st15 ?_
  refine xa X15 B d2_17 rfl rfl ?_
  refine o_go (fun _ k => ldcAgain X15 hx hZ hown (o_h hw 14 rfl) Li5 (g := (mkF m 18 #[.val (.ref a_1), .val (.ref a_2), .val (.int 0), .val (.int 0), .val .null, .unset] [(.ref a_1)])) rfl (hb hby d2_18) _ k) ?_
  show o_Go _ _ _ _ T15 (mkF m 20 #[.val (.ref a_1), .val (.ref a_2), .val (.int 0), .val (.int 0), .val .null, .unset] [(.ref b5), (.ref a_1)])
  have f18 := (Fc5.other W15 (Or.inl (o_ne (by omega))))
  refine o_gf X15 B H (o_w21 hw) e15 f18 d2_20 fun T19 X19 e19 => ?_
  have f20 := (f13.wr W15)
  have f21 := ((j2.ext E5).other W15 (Or.inr (slot_ne (Or.inr (o_w17 hw)) (Or.inr (o_w16 hw)) (by decide) (t := .byte) (t' := (.array .byte)) (by decide) (by decide))))
  obtain ⟨T22, h22, X22, e22, W22, st22⟩ := putFN X19 hx hZ hown (o_w21 hw) Via.refl e19 f21 f20 (Or.inr ⟨(o_w17 hw), rfl, hnm⟩) (o_w1 hw) (ty := .byte) (v' := .int 0) (by decide) (rfl) (fits_nar_byte (0 : Int32)) (g := (mkF m 23 #[.val (.ref a_1), .val (.ref a_2), .val (.int 0), .val (.int 0), .val .null, .unset] [(.int 0), (.ref a_1)])) rfl rfl (hb hby d2_23)
  have z23 := W22.size
  have K22 := K15.wr W22 (Or.inl o_m0)
  have N22 := Fr.snoc X22 N15 (by omega : n0 ≤ a_1)
  have Fw22 : o_F1 Z h22 a_1 (.int 0) := Fld.same W22 f21
  refine o_go st22 ?_
  obtain ⟨fs, hr, hrun, hended, hRW⟩ := X22.leaveW hS5 (by rw [e22]; omega) (v := none) (fun _ => rfl)
  refine ⟨_, _, X22.returnOut hx Bd.returns (hb hby d2_26) hr, hrun, hended, _, _, rfl, ?_, o_monoW hRW (by decide) (by decide)⟩
  refine ⟨?_, ⟨o_carryH hZ (o_w49 hw) X22.warmed Hh7, o_carryH hZ (o_w121 hw) X22.warmed Hh8, o_carryH hZ (o_w194 hw) X22.warmed Hh9⟩⟩
  show o_Q2_k0 Z a_1 a_2 g u_0 u_1 h0 n0 _ T22.heap _
  rw [e22]
  have f25 := (f20.wr W22)
  have f26 := (Fw15.other W22 (Or.inr (slot_ne (Or.inr (o_w16 hw)) (Or.inr (o_w17 hw)) (by decide) (t := (.array .byte)) (t' := .byte) (by decide) (by decide))))
  have f27 := ((Av5.other W15 (o_ne (by omega))).other W22 (o_ne (by omega)))
  exact ⟨c5, rfl, N22, K22, f25, f26, Fw22, f27⟩
theorem o_ef_own_rm1_k0 (m : MethodId) (x0 : Addr) (x1 : Addr) : entryFrame m #[(.ref x0), (.ref x1)] 2 = mkF m 0 #[.val (.ref x0), .val (.ref x1)] [] := by first | (simp [entryFrame, mkF, argsToLocals, Value.category]; done) | rfl
def o_Q1_k0 (Z : State) (a_1 : Addr) (a_2 : Addr) (g : Nat → Int32) (u_0 : Value) (u_1 : Value) (h0 : Heap) (n0 : Nat) (v : Option Value) (h : Heap) (L : List Loc) : Prop := ∃ (x_0 : Addr), v = none ∧ Fr n0 L ∧ Keep h0 h [a_1] ∧ o_E0 Z h a_1 ∧ o_F2 Z h a_1 (.ref x_0) ∧ o_F1 Z h a_1 (.int 0) ∧ o_AV Z h x_0 .byte (0 : Int32) (o_by (o_ls []))
theorem o_rm1_k0 (l : Launch) (Z : State) (a0 : Array Value) (hw : ∀ d ∈ tables_1, d.before a0 Z = true) (ws : List Jvm.Cond) (a_1 : Addr) (a_2 : Addr) (g : Nat → Int32) (u_0 : Value) (u_1 : Value) (h0 : Heap) (n0 : Nat) (Z0 : n0 ≤ h0.size) (j0 : o_E0 Z h0 a_1) (j1 : o_F2 Z h0 a_1 u_0) (j2 : o_F1 Z h0 a_1 u_1) (j3 : o_AV Z h0 a_2 .char (0 : Int32) (o_ch g)) (hold : o_old Z h0) (hgz : Z.heap.size ≤ n0) (hd_a_1_a_2 : o_df a_1 a_2) (gw_a_1 : n0 ≤ a_1) :
    MetFree l (⟨"java/lang/String", "<init>", "([C)V"⟩ : MethodName) (head1 (Jvm.Cond.code (⟨"java/lang/String", "<init>", "([C)V"⟩ : MethodName) jdk_42_method_3_code 2 none :: ws) ({ frames := 2, cells := 2, slots := 4, locals := 29 } : Room)) (fun a U => a = #[(.ref a_1), (.ref a_2)] ∧ Z.Warmed39 U.vm ∧ U.heap = h0 ∧ (fun vm : Vm => Jvm.ConstHeldL (Z.setVm vm) "java/lang/String" 7 ∧ Jvm.ConstHeldL (Z.setVm vm) "com/example/orderly_storefront/orderlystorefront/cart/CartException" 25 ∧ Jvm.ConstHeldL (Z.setVm vm) "com/example/orderly_storefront/orderlystorefront/cart/CartException" 31 ∧ Jvm.ConstHeldL (Z.setVm vm) "com/example/orderly_storefront/orderlystorefront/cart/CartExceptionInvalidQuantityPinLaw" 28) U.vm) (fun _ _ _ _ _ => True) (fun _ U o U' => ∃ v L, o = .returned v ∧ (o_Q1_k0 Z a_1 a_2 g u_0 u_1 h0 n0 v U'.heap L ∧ (fun vm : Vm => Jvm.ConstHeldL (Z.setVm vm) "com/example/orderly_storefront/orderlystorefront/cart/CartException" 25 ∧ Jvm.ConstHeldL (Z.setVm vm) "com/example/orderly_storefront/orderlystorefront/cart/CartException" 31 ∧ Jvm.ConstHeldL (Z.setVm vm) "com/example/orderly_storefront/orderlystorefront/cart/CartExceptionInvalidQuantityPinLaw" 28) U'.vm) ∧ ReturnedEndW U o U' L ({ frames := 2, cells := 2, slots := 4, locals := 29 } : Room).cells ({ frames := 2, cells := 2, slots := 4, locals := 29 } : Room).slots) := by
  refine MetFree.of_bodySF (plainFor_of_name o_pn2) hisR ?_
  intro p e s m args below meth c s₁ Bd hml0 hP hK
  obtain ⟨rfl, hZ, hh, ⟨hp0, hp1, hp2, hp3⟩⟩ := hP
  have hx := Bd.exec
  have hby := Bd.bytes
  have hml : c.maxLocals = 2 := hml0
  have hown : s.vm.findClass "java/lang/String" = some m.cls := findClass_of_methodNamed Bd.named
  have hnm := (name_of_methodNamed Bd.named Bd.method).1
  have X0 : Stand p l e ({ frames := 2, cells := 2, slots := 4, locals := 29 } : Room) s m #[(.ref a_1), (.ref a_2)] below meth c s₁ [] 0 0 := Stand.of_body Bd
  have e0 : s₁.heap = h0 := by rw [← hh, Bd.state]; rfl
  have N0 := Fr.nil n0
  have B : o_C p c _ := ⟨hx, hby⟩
  have H : o_H s Z m _ c _ := ⟨hZ, hown, hml⟩
  have X0 : Stand p l e ({ frames := 2, cells := 2, slots := 4, locals := 29 } : Room) (s.setVm s.vm) m #[(.ref a_1), (.ref a_2)] below meth c s₁ [] 0 0 := X0
  have hZ : Z.Warmed39 (s.setVm s.vm).vm := hZ
  have hown : (s.setVm s.vm).vm.findClass "java/lang/String" = some m.cls := hown
  have hS0 : s.Since s.vm 0 := (State.WarmedH.refl s).since 0
  have H : o_H _ Z m _ c _ := ⟨hZ, hown, hml⟩
  have z0 : n0 ≤ h0.size := Z0
  have z1 := o_lt j0.lt
  have z2 := o_lt j3.lt
  have K0 : Keep h0 h0 [a_1] := Keep.refl h0 _
  show o_Go p.tables e below (fun t o => t.status = .running ∧ Ended t below o ∧ ∃ v L, o = .returned v ∧ (o_Q1_k0 Z a_1 a_2 g u_0 u_1 h0 n0 v t.heap L ∧ (fun vm : Vm => Jvm.ConstHeldL (Z.setVm vm) "com/example/orderly_storefront/orderlystorefront/cart/CartException" 25 ∧ Jvm.ConstHeldL (Z.setVm vm) "com/example/orderly_storefront/orderlystorefront/cart/CartException" 31 ∧ Jvm.ConstHeldL (Z.setVm vm) "com/example/orderly_storefront/orderlystorefront/cart/CartExceptionInvalidQuantityPinLaw" 28) t.vm) ∧ ReturnedEndW s o t L ({ frames := 2, cells := 2, slots := 4, locals := 29 } : Room).cells ({ frames := 2, cells := 2, slots := 4, locals := 29 } : Room).slots) s₁ (entryFrame m #[(.ref a_1), (.ref a_2)] 2)
  rw [o_ef_own_rm1_k0 m a_1 a_2]
  show o_Go _ _ _ _ s₁ (mkF m 0 #[.val (.ref a_1), .val (.ref a_2)] [])
  refine xa X0 B d1_0 rfl rfl ?_
  refine xa X0 B d1_1 rfl rfl ?_
  refine xc X0 B d1_2 0 rfl ?_
  refine xa X0 B d1_3 rfl rfl ?_
  refine xl X0 B H e0 j3 d1_4 ?_
  refine xu X0 B d1_5 ?_
  obtain ⟨_, _, ⟨T3, L3, k3, n3⟩, -, X3, hS3, gr3, ⟨Lc3, ⟨hQ3, hV3⟩, l3, y3, z3⟩, st3⟩ := X0.specialBackS hx (y := (⟨"java/lang/String", "<init>", "([CIILjava/lang/Void;)V"⟩ : MethodName)) rfl hown (mvT hZ (o_h hw 7 rfl)) (mvT hZ (o_h hw 8 rfl)) (mvT hZ (o_h hw 10 rfl)) (by decide) (o_backC (PV := (fun vm : Vm => Jvm.ConstHeldL (Z.setVm vm) "java/lang/String" 7 ∧ Jvm.ConstHeldL (Z.setVm vm) "com/example/orderly_storefront/orderlystorefront/cart/CartException" 25 ∧ Jvm.ConstHeldL (Z.setVm vm) "com/example/orderly_storefront/orderlystorefront/cart/CartException" 31 ∧ Jvm.ConstHeldL (Z.setVm vm) "com/example/orderly_storefront/orderlystorefront/cart/CartExceptionInvalidQuantityPinLaw" 28)) (QV := (fun vm : Vm => Jvm.ConstHeldL (Z.setVm vm) "com/example/orderly_storefront/orderlystorefront/cart/CartException" 25 ∧ Jvm.ConstHeldL (Z.setVm vm) "com/example/orderly_storefront/orderlystorefront/cart/CartException" 31 ∧ Jvm.ConstHeldL (Z.setVm vm) "com/example/orderly_storefront/orderlystorefront/cart/CartExceptionInvalidQuantityPinLaw" 28)) (W := 0) (o_rm2_k0 l Z a0 hw [] a_1 a_2 g u_0 u_1 h0 n0 (by omega) j0 j1 j2 j3 hold (by first | rfl | assumption) hd_a_1_a_2 (by omega)) hZ (o_h hw 10 rfl) (o_w2 hw) (by decide) (by decide) (fun _ q => ⟨o_carryH hZ (o_h hw 14 rfl) q hp0, o_carryH hZ (o_w49 hw) q hp1, o_carryH hZ (o_w121 hw) q hp2, o_carryH hZ (o_w194 hw) q hp3⟩)) (g := (mkF m 6 #[.val (.ref a_1), .val (.ref a_2)] [.null, (.int 0), (.int 0), (.ref a_2), (.ref a_1)])) rfl (by rw [hml]; rfl) (Steps.refl _) (a := a_1) (argsL := [(.ref a_2), (.int 0), (.int 0), .null]) (rest := []) (lenOf o_pd4 rfl) rfl (by show 2 * 0 + _ ≤ _; exact Nat.le_of_eq rfl) (hb hby d1_6) (fun _ _ => ⟨rfl, e0, (by decide : 0 + 2 ≤ _), (by decide : 0 + 4 ≤ _)⟩)
  dsimp only [Pt.U, Pt.locs, Pt.cells, Pt.slots] at X3 l3 y3 z3 st3 hQ3 hS3 gr3 hV3
  have y3 : k3 = 2 := y3
  have z3 : n3 = 4 := z3
  have Wn3 := hS3.1
  obtain ⟨X3, hS3, hZ, hown⟩ := rebS hS0 (n1 := s₁.heap.size) (by rw [e0]; omega) X3 hS3 gr3 hZ hown
  have H : o_H _ Z m _ c _ := ⟨hZ, hown, hml⟩
  obtain ⟨Hh4, Hh5, Hh6⟩ := hV3
  subst y3
  subst z3
  obtain ⟨x_7, rfl, N3q, K3q, f8, f9, f10, f11⟩ := hQ3
  have N3 : Fr n0 L3 := by rw [l3]; exact Fr.app N0 N3q
  have z12 := K3q.1
  have K3 := K0.trans K3q (allS (Or.inl o_m0) all0)
  have z13 := o_lt f8.lt
  have z14 := o_lt f11.lt
  refine o_go (fun _ k => st3.trans k) ?_
  obtain ⟨fs, hr, hrun, hended, hRW⟩ := X3.leaveW hS3 (by omega) (v := none) (fun _ => rfl)
  refine ⟨_, _, X3.returnOut hx Bd.returns (hb hby d1_9) hr, hrun, hended, _, _, rfl, ?_, o_monoW hRW (by decide) (by decide)⟩
  refine ⟨?_, ⟨o_carryH hZ (o_w49 hw) X3.warmed Hh4, o_carryH hZ (o_w121 hw) X3.warmed Hh5, o_carryH hZ (o_w194 hw) X3.warmed Hh6⟩⟩
  exact ⟨x_7, rfl, N3, K3, f8, f9, f10, f11⟩
theorem d53_0 : decode c53' 0 = .ok (.iload_n 0, 1) := by decide +kernel
theorem d53_1 : decode c53' 1 = .ok (.sipush 255, 3) := by decide +kernel
theorem d53_4 : decode c53' 4 = .ok (.if_icmp .gt 7, 3) := by decide +kernel
theorem d53_7 : decode c53' 7 = .ok (.iconst 1, 1) := by decide +kernel
theorem d53_8 : decode c53' 8 = .ok (.goto 4, 3) := by decide +kernel
theorem d53_12 : decode c53' 12 = .ok (.ireturn, 1) := by decide +kernel
theorem o_rm53_L (hw : o_T Z a0) (Z0 : n0 ≤ h0.size) (p_1 : Int32) (hcc : ¬ ((255 : Int32) < p_1)) :
    M53' l Z (o_rm 0 0 0 0) #[(.int p_1)] h0 (fun v h L => v = some (.int 1) ∧ Fr n0 L ∧ h = h0) := by
  refine o_start (plainFor_of_name o_pn1) (L0 := #[.val (.int p_1)]) (fun _ => rfl) fun p e s m below meth c s₁ hx hby hml hown hnm hret hZ X0 e0 B H => ?_
  have N0 := Fr.nil n0
  have z0 : n0 ≤ h0.size := Z0
  refine xi X0 B d53_0 rfl ?_
  refine xh X0 B d53_1 255 rfl ?_
  refine xm X0 B d53_4 (XT.ii_gt_f hcc) ?_
  refine xc X0 B d53_7 1 rfl ?_
  refine xg X0 B 8 12 rfl d53_8 (by decide) ?_
  exact o_retI X0 B hret (Or.inr (Or.inl rfl)) rfl d53_12 (by decide) e0 ⟨rfl, N0, rfl⟩
theorem d54_0 : decode c54' 0 = .ok (.iconst 1, 1) := by decide +kernel
theorem d54_1 : decode c54' 1 = .ok (.newarray .byte, 2) := by decide +kernel
theorem d54_3 : decode c54' 3 = .ok (.dup, 1) := by decide +kernel
theorem d54_4 : decode c54' 4 = .ok (.iconst 0, 1) := by decide +kernel
theorem d54_5 : decode c54' 5 = .ok (.iload_n 0, 1) := by decide +kernel
theorem d54_6 : decode c54' 6 = .ok (.i2b, 1) := by decide +kernel
theorem d54_7 : decode c54' 7 = .ok (.bastore, 1) := by decide +kernel
theorem d54_8 : decode c54' 8 = .ok (.areturn, 1) := by decide +kernel
theorem o_rm54_s1 (hw : o_T Z a0) (Z0 : n0 ≤ h0.size) (p_1 : Int32) :
    M54' l Z (o_rm 0 1 1 0) #[(.int p_1)] h0 (fun v h L => ∃ (x_0 : Addr), v = some (.ref x_0) ∧ Fr n0 L ∧ Keep h0 h [] ∧ o_AV Z h x_0 .byte (1 : Int32) (o_by (o_ui (fun _ => 0) 0 p_1)) ∧ (h0.size ≤ x_0)) := by
  refine o_start (plainFor_of_name o_pn1) (L0 := #[.val (.int p_1)]) (fun _ => rfl) fun p e s m below meth c s₁ hx hby hml hown hnm hret hZ X0 e0 B H => ?_
  have N0 := Fr.nil n0
  have z0 : n0 ≤ h0.size := Z0
  have K0 : Keep h0 h0 [] := Keep.refl h0 _
  refine xc X0 B d54_0 1 rfl ?_
  obtain ⟨T1, h1, k1, X1, e1, E1, A1, st1⟩ := newP X0 hx hZ (hw _ (List.mem_of_getElem? (i := 15) rfl)) e0 (g := (mkF m 1 #[.val (.int p_1)] [(.int 1)])) rfl (hb hby d54_1) rfl (by decide) (cap := 1) (by decide) (by decide) (by decide) (by decide)
  obtain ⟨b1, g1⟩ : ∃ z, z = h0.size := ⟨_, rfl⟩
  rw [← g1] at A1 st1
  have z2 := E1.1
  have lt_b1 := o_lt A1.lt
  have K1 := K0.ext E1
  have V_b1 : o_AV Z h1 b1 .byte (1 : Int32) (o_by (fun _ => 0)) := o_AV.congr (o_AV.new A1 (by decide)) fun i _ => (o_by0 i).symm
  refine o_go st1 ?_
  refine xd X1 B d54_3 rfl ?_
  refine xc X1 B d54_4 0 rfl ?_
  refine xi X1 B d54_5 rfl ?_
  refine o_go (fun _ k => XS.i2b X1.here hx rfl (hb hby d54_6) rfl k) ?_
  show o_Go _ _ _ _ T1 (mkF m 7 #[.val (.int p_1)] [(.int (p_1.toInt8.toInt32)), (.int 0), (.ref b1), (.ref b1)])
  obtain ⟨q3, c3, R3, s3, t3⟩ := id V_b1
  have hin3 : ¬ ((0 : Int32) < 0 ∨ c3.slots.size ≤ ((0 : Int32)).toNatClampNeg) := inb_of s3 ⟨by decide, by decide⟩
  obtain ⟨T4, h4, X4, e4, W4, st4⟩ := stB X1 hx hZ e1 R3 (j := (0 : Int32)) hin3 (g := (mkF m 7 #[.val (.int p_1)] [(.int (p_1.toInt8.toInt32)), (.int 0), (.ref b1), (.ref b1)])) rfl rfl (hb hby d54_7)
  have V4 : o_AV Z h4 b1 .byte (1 : Int32) (o_by (o_ui (fun _ => 0) 0 p_1)) := o_AV.congr (o_AV.set (k := 0) V_b1 W4 (by decide)) fun i _ => o_bset _ _ _ i
  have z5 := W4.size
  have K4 := K1.wr W4 (Or.inr (by omega))
  have N4 := Fr.snoc X4 N0 (by omega : n0 ≤ b1)
  refine o_go st4 ?_
  exact o_retA X4 B hret rfl rfl rfl d54_8 (by decide) e4 ⟨b1, rfl, N4, K4, V4, (by omega)⟩
theorem d55_0 : decode c55' 0 = .ok (.aload_n 0, 1) := by decide +kernel
theorem d55_1 : decode c55' 1 = .ok (.invokespecial 1, 3) := by decide +kernel
theorem d55_4 : decode c55' 4 = .ok (.aload_n 0, 1) := by decide +kernel
theorem d55_5 : decode c55' 5 = .ok (.aload_n 1, 1) := by decide +kernel
theorem d55_6 : decode c55' 6 = .ok (.putfield 9, 3) := by decide +kernel
theorem d55_9 : decode c55' 9 = .ok (.aload_n 0, 1) := by decide +kernel
theorem d55_10 : decode c55' 10 = .ok (.iload_n 2, 1) := by decide +kernel
theorem d55_11 : decode c55' 11 = .ok (.putfield 15, 3) := by decide +kernel
theorem d55_14 : decode c55' 14 = .ok (.return_, 1) := by decide +kernel
theorem o_rm55_s1 (hw : o_T Z a0) (Z0 : n0 ≤ h0.size) (a_1 a_2 : Addr) (u_0 u_1 : Value) (j0 : o_E0 Z h0 a_1) (j1 : o_F1 Z h0 a_1 u_0) (j2 : o_F2 Z h0 a_1 u_1) (gw_a_1 : n0 ≤ a_1) :
    M55' l Z (o_rm 1 0 0 12) #[(.ref a_1), (.ref a_2), (.int 0)] h0 (fun v h L => v = none ∧ Fr n0 L ∧ Keep h0 h [a_1] ∧ o_E0 Z h a_1 ∧ o_F1 Z h a_1 (.int 0) ∧ o_F2 Z h a_1 (.ref a_2)) := by
  refine o_start (plainFor_of_name o_pn2) (L0 := #[.val (.ref a_1), .val (.ref a_2), .val (.int 0)]) (fun _ => rfl) fun p e s m below meth c s₁ hx hby hml hown hnm hret hZ X0 e0 B H => ?_
  have N0 := Fr.nil n0
  have z0 : n0 ≤ h0.size := Z0
  have z1 := o_lt j0.lt
  have K0 : Keep h0 h0 [a_1] := Keep.refl h0 _
  refine xa X0 B d55_0 rfl rfl ?_
  obtain ⟨T2, X2, e2, st2⟩ := initO X0 hx hZ hown (o_w11 hw) (o_w12 hw) (o_w13 hw) e0 (g := (mkF m 1 #[.val (.ref a_1), .val (.ref a_2), .val (.int 0)] [(.ref a_1)])) rfl (by rw [hml]; rfl) rfl (hb hby d55_1) (by decide) (W := 0) (by show 2 * 0 + _ ≤ _; exact Nat.le_of_eq rfl) (by decide)
  refine o_go st2 ?_
  refine xa X2 B d55_4 rfl rfl ?_
  refine xa X2 B d55_5 rfl rfl ?_
  obtain ⟨T3, h3, X3, e3, W3, st3⟩ := putF X2 hx hZ hown (host := "") (Or.inl (o_w20 hw)) Via.refl e2 j2 j0 (Or.inr ⟨(o_w16 hw), rfl, hnm⟩) (o_w1 hw) (ty := (.array .byte)) (by decide) rfl rfl (g := (mkF m 6 #[.val (.ref a_1), .val (.ref a_2), .val (.int 0)] [(.ref a_2), (.ref a_1)])) rfl rfl (hb hby d55_6)
  have z4 := W3.size
  have K3 := K0.wr W3 (Or.inl o_m0)
  have N3 := Fr.snoc X3 N0 (by omega : n0 ≤ a_1)
  have Fw3 : o_F2 Z h3 a_1 (.ref a_2) := Fld.same W3 j2
  refine o_go st3 ?_
  refine xa X3 B d55_9 rfl rfl ?_
  refine xi X3 B d55_10 rfl ?_
  have f5 := (j0.wr W3)
  have f6 := (j1.other W3 (Or.inr (slot_ne (Or.inr (o_w17 hw)) (Or.inr (o_w16 hw)) (by decide) (t := .byte) (t' := (.array .byte)) (by decide) (by decide))))
  obtain ⟨T7, h7, X7, e7, W7, st7⟩ := putFN X3 hx hZ hown (o_w21 hw) Via.refl e3 f6 f5 (Or.inr ⟨(o_w17 hw), rfl, hnm⟩) (o_w1 hw) (ty := .byte) (v' := .int 0) (by decide) (rfl) (fits_nar_byte (0 : Int32)) (g := (mkF m 11 #[.val (.ref a_1), .val (.ref a_2), .val (.int 0)] [(.int 0), (.ref a_1)])) rfl rfl (hb hby d55_11)
  have z8 := W7.size
  have K7 := K3.wr W7 (Or.inl o_m0)
  have N7 := Fr.snoc X7 N3 (by omega : n0 ≤ a_1)
  have Fw7 : o_F1 Z h7 a_1 (.int 0) := Fld.same W7 f6
  refine o_go st7 ?_
  have f10 := (f5.wr W7)
  have f11 := (Fw3.other W7 (Or.inr (slot_ne (Or.inr (o_w16 hw)) (Or.inr (o_w17 hw)) (by decide) (t := (.array .byte)) (t' := .byte) (by decide) (by decide))))
  exact o_retV X7 B hret d55_14 (by decide) e7 ⟨rfl, N7, K7, f10, Fw7, f11⟩
theorem d52_0 : decode c52' 0 = .ok (.getstatic 38, 3) := by decide +kernel
theorem d52_3 : decode c52' 3 = .ok (.ifCond .eq 23, 3) := by decide +kernel
theorem d52_6 : decode c52' 6 = .ok (.iload_n 0, 1) := by decide +kernel
theorem d52_7 : decode c52' 7 = .ok (.invokestatic 1015, 3) := by decide +kernel
theorem d52_10 : decode c52' 10 = .ok (.ifCond .eq 16, 3) := by decide +kernel
theorem d52_13 : decode c52' 13 = .ok (.new 10, 3) := by decide +kernel
theorem d52_16 : decode c52' 16 = .ok (.dup, 1) := by decide +kernel
theorem d52_17 : decode c52' 17 = .ok (.iload_n 0, 1) := by decide +kernel
theorem d52_18 : decode c52' 18 = .ok (.invokestatic 1018, 3) := by decide +kernel
theorem d52_21 : decode c52' 21 = .ok (.iconst 0, 1) := by decide +kernel
theorem d52_22 : decode c52' 22 = .ok (.invokespecial 209, 3) := by decide +kernel
theorem d52_25 : decode c52' 25 = .ok (.areturn, 1) := by decide +kernel
theorem o_rm52_L (hw : o_T Z a0) (Z0 : n0 ≤ h0.size) (p_1 : Int32) (j0 : o_G Z h0) (hcc : ¬ ((255 : Int32) < p_1)) :
    M52' l Z (o_rm 2 2 5 27) #[(.int p_1)] h0 (fun v h L => ∃ (x_0 : Addr) (x_1 : Addr), v = some (.ref x_0) ∧ Fr n0 L ∧ Keep h0 h [] ∧ o_E0 Z h x_0 ∧ o_F1 Z h x_0 (.int 0) ∧ o_F2 Z h x_0 (.ref x_1) ∧ o_AV Z h x_1 .byte (1 : Int32) (o_by (o_ui (fun _ => 0) 0 p_1)) ∧ (h0.size ≤ x_0) ∧ (h0.size ≤ x_1) ∧ (o_lts [x_0, x_1])) := by
  refine o_start (plainFor_of_name o_pn2) (L0 := #[.val (.int p_1)]) (fun _ => rfl) fun p e s m below meth c s₁ hx hby hml hown hnm hret hZ X0 e0 B H => ?_
  have N0 := Fr.nil n0
  have z0 : n0 ≤ h0.size := Z0
  have K0 : Keep h0 h0 [] := Keep.refl h0 _
  refine o_gs X0 B H (o_w70 hw) e0 j0.1 d52_0 fun T1 X1 e1 => ?_
  refine xn X1 B d52_3 (XT.i0_eq_f (o_hcs j0)) ?_
  refine xi X1 B d52_6 rfl ?_
  refine o_cst X1 B H e1 (o_rm53_L (n0 := n0) hw (by omega) p_1  (show ¬ ((255 : Int32) < p_1) by first | assumption | omega | decide)) (o_h hw 273 rfl) (o_h hw 274 rfl) (o_w209 hw) (o_h hw 275 rfl) rfl (lenOf o_pd9 rfl) rfl rfl (W := 0) rfl d52_7 (by decide) ?_
  rintro _ T3 L3 X3 ⟨rfl, N3q, e3⟩
  have N3 := Fr.app N0 N3q
  have hc4 : ¬ ((1 : Int32) = 0) := by decide
  refine xn X3 B d52_10 (XT.i0_eq_f hc4) ?_
  obtain ⟨T5, h5, X5, e5, E5, A5, D5, Y5, st5⟩ := newO X3 hx hZ hown (o_h hw 206 rfl) (o_w1 hw) (o_w2 hw) e3 (g := (mkF m 13 #[.val (.int p_1)] [])) rfl (hb hby d52_13) (by decide) (by decide)
  obtain ⟨b5, g5⟩ : ∃ z, z = h0.size := ⟨_, rfl⟩
  rw [← g5] at A5 D5 Y5 st5
  have z6 := E5.1
  have lt_b5 := o_lt A5.lt
  have K5 := K0.ext E5
  have F_value_b5 : o_F2 Z h5 b5 .null := D5 (Or.inr (o_w16 hw)) (ty := (.array .byte)) (by decide)
  have F_coder_b5 : o_F1 Z h5 b5 (.int 0) := D5 (Or.inr (o_w17 hw)) (ty := .byte) (by decide)
  refine o_go st5 ?_
  refine xd X5 B d52_16 rfl ?_
  refine xi X5 B d52_17 rfl ?_
  refine o_cst X5 B H e5 (o_rm54_s1 (n0 := n0) hw (by omega) p_1  ) (o_h hw 276 rfl) (o_h hw 277 rfl) (o_w209 hw) (o_h hw 278 rfl) rfl (lenOf o_pd10 rfl) rfl rfl (W := 2) rfl d52_18 (by decide) ?_
  rintro _ T7 L7 X7 ⟨x_8, rfl, N7q, K7q, f9, f10⟩
  have N7 := Fr.app N3 N7q
  have z11 := K7q.1
  have K7 := K5.trans K7q all0
  have z12 := o_lt f9.lt
  refine xc X7 B d52_21 0 rfl ?_
  have f13 := (A5.keep K7q)
  have f14 := (F_coder_b5.keep K7q nin0)
  have f15 := (F_value_b5.keep K7q nin0)
  refine o_csp (a := b5) X7 B H rfl (o_rm55_s1 (n0 := n0) hw (by omega) b5 x_8 (.int 0) .null f13 f14 f15 (by omega)) (o_h hw 279 rfl) (o_h hw 280 rfl) (o_w2 hw) (o_h hw 281 rfl) rfl rfl (lenOf o_pd11 rfl) rfl rfl (W := 1) rfl d52_22 (by decide) ?_
  rintro _ T16 L16 X16 ⟨rfl, N16q, K16q, f17, f18, f19⟩
  have N16 := Fr.app N7 N16q
  have z20 := K16q.1
  have K16 := K7.trans K16q (allS (Or.inr (by omega)) all0)
  have z21 := o_lt f17.lt
  have f23 := (f9.keep K16q (ninS (o_ne (by omega)) nin0))
  exact o_retA X16 B hret rfl rfl rfl d52_25 (by decide) rfl ⟨b5, x_8, rfl, N16, K16, f17, f18, f19, f23, (by omega), (by omega), (by simp only [o_lts, and_true]; omega)⟩
theorem d53_11 : decode c53' 11 = .ok (.iconst 0, 1) := by decide +kernel
theorem o_rm53_U (hw : o_T Z a0) (Z0 : n0 ≤ h0.size) (p_1 : Int32) (hcc : (255 : Int32) < p_1) :
    M53' l Z (o_rm 0 0 0 0) #[(.int p_1)] h0 (fun v h L => v = some (.int 0) ∧ Fr n0 L ∧ h = h0) := by
  refine o_start (plainFor_of_name o_pn1) (L0 := #[.val (.int p_1)]) (fun _ => rfl) fun p e s m below meth c s₁ hx hby hml hown hnm hret hZ X0 e0 B H => ?_
  have N0 := Fr.nil n0
  have z0 : n0 ≤ h0.size := Z0
  refine xi X0 B d53_0 rfl ?_
  refine xh X0 B d53_1 255 rfl ?_
  refine xM X0 B 4 11 rfl d53_4 (XT.ii_gt_t hcc) (by decide) ?_
  refine xc X0 B d53_11 0 rfl ?_
  exact o_retI X0 B hret (Or.inr (Or.inl rfl)) rfl d53_12 (by decide) e0 ⟨rfl, N0, rfl⟩
theorem d56_0 : decode c56' 0 = .ok (.iconst 2, 1) := by decide +kernel
theorem d56_1 : decode c56' 1 = .ok (.newarray .byte, 2) := by decide +kernel
theorem d56_3 : decode c56' 3 = .ok (.astore_n 1, 1) := by decide +kernel
theorem d56_4 : decode c56' 4 = .ok (.aload_n 1, 1) := by decide +kernel
theorem d56_5 : decode c56' 5 = .ok (.iconst 0, 1) := by decide +kernel
theorem d56_6 : decode c56' 6 = .ok (.iload_n 0, 1) := by decide +kernel
theorem d56_7 : decode c56' 7 = .ok (.invokestatic 111, 3) := by decide +kernel
theorem d56_10 : decode c56' 10 = .ok (.aload_n 1, 1) := by decide +kernel
theorem d56_11 : decode c56' 11 = .ok (.areturn, 1) := by decide +kernel
theorem o_rm56_s1 (hw : o_T Z a0) (Z0 : n0 ≤ h0.size) (p_1 : Int32) (j0 : o_G Z h0) :
    M56' l Z (o_rm 1 1 2 14) #[(.int p_1)] h0 (fun v h L => ∃ (x_0 : Addr), v = some (.ref x_0) ∧ Fr n0 L ∧ Keep h0 h [] ∧ o_AV Z h x_0 .byte (2 : Int32) (o_by (o_pc (fun _ => 0) 0 p_1)) ∧ (h0.size ≤ x_0)) := by
  refine o_start (plainFor_of_name o_pn0) (L0 := #[.val (.int p_1), .unset]) (fun _ => rfl) fun p e s m below meth c s₁ hx hby hml hown hnm hret hZ X0 e0 B H => ?_
  have N0 := Fr.nil n0
  have z0 : n0 ≤ h0.size := Z0
  have K0 : Keep h0 h0 [] := Keep.refl h0 _
  refine xc X0 B d56_0 2 rfl ?_
  obtain ⟨T1, h1, k1, X1, e1, E1, A1, st1⟩ := newP X0 hx hZ (hw _ (List.mem_of_getElem? (i := 15) rfl)) e0 (g := (mkF m 1 #[.val (.int p_1), .unset] [(.int 2)])) rfl (hb hby d56_1) rfl (by decide) (cap := 2) (by decide) (by decide) (by decide) (by decide)
  obtain ⟨b1, g1⟩ : ∃ z, z = h0.size := ⟨_, rfl⟩
  rw [← g1] at A1 st1
  have z2 := E1.1
  have lt_b1 := o_lt A1.lt
  have K1 := K0.ext E1
  have V_b1 : o_AV Z h1 b1 .byte (2 : Int32) (o_by (fun _ => 0)) := o_AV.congr (o_AV.new A1 (by decide)) fun i _ => (o_by0 i).symm
  refine o_go st1 ?_
  refine xt X1 B d56_3 rfl (l' := #[.val (.int p_1), .val (.ref b1)]) rfl ?_
  refine xa X1 B d56_4 rfl rfl ?_
  refine xc X1 B d56_5 0 rfl ?_
  refine xi X1 B d56_6 rfl ?_
  have f3 := (j0.ext E1)
  refine o_cst X1 B H e1 (o_rm43 (n0 := n0) hw (by omega) b1 (0 : Int32) p_1 (fun _ => 0) (2 : Int32) 0 f3 V_b1 rfl (o_hb (n := 2) (by decide) (by omega)) (by omega)) (o_h hw 231 rfl) (o_h hw 232 rfl) (o_w213 hw) (o_h hw 233 rfl) rfl (lenOf o_pd7 rfl) rfl rfl (W := 0) rfl d56_7 (by decide) ?_
  rintro _ T4 L4 X4 ⟨rfl, N4q, K4q, f5⟩
  have N4 := Fr.app N0 N4q
  have z6 := K4q.1
  have K4 := K1.trans K4q (allS (Or.inr (by omega)) all0)
  have z7 := o_lt f5.lt
  refine xa X4 B d56_10 rfl rfl ?_
  exact o_retA X4 B hret rfl rfl rfl d56_11 (by decide) rfl ⟨b1, rfl, N4, K4, f5, (by omega)⟩
theorem o_rm55_s2 (hw : o_T Z a0) (Z0 : n0 ≤ h0.size) (a_1 a_2 : Addr) (u_0 u_1 : Value) (j0 : o_E0 Z h0 a_1) (j1 : o_F1 Z h0 a_1 u_0) (j2 : o_F2 Z h0 a_1 u_1) (gw_a_1 : n0 ≤ a_1) :
    M55' l Z (o_rm 1 0 0 12) #[(.ref a_1), (.ref a_2), (.int 1)] h0 (fun v h L => v = none ∧ Fr n0 L ∧ Keep h0 h [a_1] ∧ o_E0 Z h a_1 ∧ o_F1 Z h a_1 (.int 1) ∧ o_F2 Z h a_1 (.ref a_2)) := by
  refine o_start (plainFor_of_name o_pn2) (L0 := #[.val (.ref a_1), .val (.ref a_2), .val (.int 1)]) (fun _ => rfl) fun p e s m below meth c s₁ hx hby hml hown hnm hret hZ X0 e0 B H => ?_
  have N0 := Fr.nil n0
  have z0 : n0 ≤ h0.size := Z0
  have z1 := o_lt j0.lt
  have K0 : Keep h0 h0 [a_1] := Keep.refl h0 _
  refine xa X0 B d55_0 rfl rfl ?_
  obtain ⟨T2, X2, e2, st2⟩ := initO X0 hx hZ hown (o_w11 hw) (o_w12 hw) (o_w13 hw) e0 (g := (mkF m 1 #[.val (.ref a_1), .val (.ref a_2), .val (.int 1)] [(.ref a_1)])) rfl (by rw [hml]; rfl) rfl (hb hby d55_1) (by decide) (W := 0) (by show 2 * 0 + _ ≤ _; exact Nat.le_of_eq rfl) (by decide)
  refine o_go st2 ?_
  refine xa X2 B d55_4 rfl rfl ?_
  refine xa X2 B d55_5 rfl rfl ?_
  obtain ⟨T3, h3, X3, e3, W3, st3⟩ := putF X2 hx hZ hown (host := "") (Or.inl (o_w20 hw)) Via.refl e2 j2 j0 (Or.inr ⟨(o_w16 hw), rfl, hnm⟩) (o_w1 hw) (ty := (.array .byte)) (by decide) rfl rfl (g := (mkF m 6 #[.val (.ref a_1), .val (.ref a_2), .val (.int 1)] [(.ref a_2), (.ref a_1)])) rfl rfl (hb hby d55_6)
  have z4 := W3.size
  have K3 := K0.wr W3 (Or.inl o_m0)
  have N3 := Fr.snoc X3 N0 (by omega : n0 ≤ a_1)
  have Fw3 : o_F2 Z h3 a_1 (.ref a_2) := Fld.same W3 j2
  refine o_go st3 ?_
  refine xa X3 B d55_9 rfl rfl ?_
  refine xi X3 B d55_10 rfl ?_
  have f5 := (j0.wr W3)
  have f6 := (j1.other W3 (Or.inr (slot_ne (Or.inr (o_w17 hw)) (Or.inr (o_w16 hw)) (by decide) (t := .byte) (t' := (.array .byte)) (by decide) (by decide))))
  obtain ⟨T7, h7, X7, e7, W7, st7⟩ := putFN X3 hx hZ hown (o_w21 hw) Via.refl e3 f6 f5 (Or.inr ⟨(o_w17 hw), rfl, hnm⟩) (o_w1 hw) (ty := .byte) (v' := .int 1) (by decide) (rfl) (fits_nar_byte (1 : Int32)) (g := (mkF m 11 #[.val (.ref a_1), .val (.ref a_2), .val (.int 1)] [(.int 1), (.ref a_1)])) rfl rfl (hb hby d55_11)
  have z8 := W7.size
  have K7 := K3.wr W7 (Or.inl o_m0)
  have N7 := Fr.snoc X7 N3 (by omega : n0 ≤ a_1)
  have Fw7 : o_F1 Z h7 a_1 (.int 1) := Fld.same W7 f6
  refine o_go st7 ?_
  have f10 := (f5.wr W7)
  have f11 := (Fw3.other W7 (Or.inr (slot_ne (Or.inr (o_w16 hw)) (Or.inr (o_w17 hw)) (by decide) (t := (.array .byte)) (t' := .byte) (by decide) (by decide))))
  exact o_retV X7 B hret d55_14 (by decide) e7 ⟨rfl, N7, K7, f10, Fw7, f11⟩
theorem d52_26 : decode c52' 26 = .ok (.new 10, 3) := by decide +kernel
theorem d52_29 : decode c52' 29 = .ok (.dup, 1) := by decide +kernel
theorem d52_30 : decode c52' 30 = .ok (.iload_n 0, 1) := by decide +kernel
theorem d52_31 : decode c52' 31 = .ok (.invokestatic 1021, 3) := by decide +kernel
theorem d52_34 : decode c52' 34 = .ok (.iconst 1, 1) := by decide +kernel
theorem d52_35 : decode c52' 35 = .ok (.invokespecial 209, 3) := by decide +kernel
theorem d52_38 : decode c52' 38 = .ok (.areturn, 1) := by decide +kernel
theorem o_rm52_U (hw : o_T Z a0) (Z0 : n0 ≤ h0.size) (p_1 : Int32) (j0 : o_G Z h0) (hcc : (255 : Int32) < p_1) :
    M52' l Z (o_rm 2 2 6 29) #[(.int p_1)] h0 (fun v h L => ∃ (x_0 : Addr) (x_1 : Addr), v = some (.ref x_0) ∧ Fr n0 L ∧ Keep h0 h [] ∧ o_E0 Z h x_0 ∧ o_F1 Z h x_0 (.int 1) ∧ o_F2 Z h x_0 (.ref x_1) ∧ o_AV Z h x_1 .byte (2 : Int32) (o_by (o_pc (fun _ => 0) 0 p_1)) ∧ (h0.size ≤ x_0) ∧ (h0.size ≤ x_1) ∧ (o_lts [x_0, x_1])) := by
  refine o_start (plainFor_of_name o_pn2) (L0 := #[.val (.int p_1)]) (fun _ => rfl) fun p e s m below meth c s₁ hx hby hml hown hnm hret hZ X0 e0 B H => ?_
  have N0 := Fr.nil n0
  have z0 : n0 ≤ h0.size := Z0
  have K0 : Keep h0 h0 [] := Keep.refl h0 _
  refine o_gs X0 B H (o_w70 hw) e0 j0.1 d52_0 fun T1 X1 e1 => ?_
  refine xn X1 B d52_3 (XT.i0_eq_f (o_hcs j0)) ?_
  refine xi X1 B d52_6 rfl ?_
  refine o_cst X1 B H e1 (o_rm53_U (n0 := n0) hw (by omega) p_1  (show (255 : Int32) < p_1 by first | assumption | omega | decide)) (o_h hw 273 rfl) (o_h hw 274 rfl) (o_w209 hw) (o_h hw 275 rfl) rfl (lenOf o_pd9 rfl) rfl rfl (W := 0) rfl d52_7 (by decide) ?_
  rintro _ T3 L3 X3 ⟨rfl, N3q, e3⟩
  have N3 := Fr.app N0 N3q
  have hc4 : (0 : Int32) = 0 := by decide
  refine xy X3 B 10 26 rfl d52_10 (XT.i0_eq_t hc4) (by decide) ?_
  obtain ⟨T5, h5, X5, e5, E5, A5, D5, Y5, st5⟩ := newO X3 hx hZ hown (o_h hw 206 rfl) (o_w1 hw) (o_w2 hw) e3 (g := (mkF m 26 #[.val (.int p_1)] [])) rfl (hb hby d52_26) (by decide) (by decide)
  obtain ⟨b5, g5⟩ : ∃ z, z = h0.size := ⟨_, rfl⟩
  rw [← g5] at A5 D5 Y5 st5
  have z6 := E5.1
  have lt_b5 := o_lt A5.lt
  have K5 := K0.ext E5
  have F_value_b5 : o_F2 Z h5 b5 .null := D5 (Or.inr (o_w16 hw)) (ty := (.array .byte)) (by decide)
  have F_coder_b5 : o_F1 Z h5 b5 (.int 0) := D5 (Or.inr (o_w17 hw)) (ty := .byte) (by decide)
  refine o_go st5 ?_
  refine xd X5 B d52_29 rfl ?_
  refine xi X5 B d52_30 rfl ?_
  have f7 := (j0.ext E5)
  refine o_cst X5 B H e5 (o_rm56_s1 (n0 := n0) hw (by omega) p_1  f7) (o_h hw 282 rfl) (o_h hw 283 rfl) (o_w213 hw) (o_h hw 284 rfl) rfl (lenOf o_pd10 rfl) rfl rfl (W := 2) rfl d52_31 (by decide) ?_
  rintro _ T8 L8 X8 ⟨x_9, rfl, N8q, K8q, f10, f11⟩
  have N8 := Fr.app N3 N8q
  have z12 := K8q.1
  have K8 := K5.trans K8q all0
  have z13 := o_lt f10.lt
  refine xc X8 B d52_34 1 rfl ?_
  have f14 := (A5.keep K8q)
  have f15 := (F_coder_b5.keep K8q nin0)
  have f16 := (F_value_b5.keep K8q nin0)
  refine o_csp (a := b5) X8 B H rfl (o_rm55_s2 (n0 := n0) hw (by omega) b5 x_9 (.int 0) .null f14 f15 f16 (by omega)) (o_h hw 279 rfl) (o_h hw 280 rfl) (o_w2 hw) (o_h hw 281 rfl) rfl rfl (lenOf o_pd11 rfl) rfl rfl (W := 1) rfl d52_35 (by decide) ?_
  rintro _ T17 L17 X17 ⟨rfl, N17q, K17q, f18, f19, f20⟩
  have N17 := Fr.app N8 N17q
  have z21 := K17q.1
  have K17 := K8.trans K17q (allS (Or.inr (by omega)) all0)
  have z22 := o_lt f18.lt
  have f24 := (f10.keep K17q (ninS (o_ne (by omega)) nin0))
  exact o_retA X17 B hret rfl rfl rfl d52_38 (by decide) rfl ⟨b5, x_9, rfl, N17, K17, f18, f19, f20, f24, (by omega), (by omega), (by simp only [o_lts, and_true]; omega)⟩
theorem d6_0 : decode c6' 0 = .ok (.aload_n 0, 1) := by decide +kernel
theorem d6_1 : decode c6' 1 = .ok (.invokespecial 3, 3) := by decide +kernel
theorem d6_4 : decode c6' 4 = .ok (.getstatic 18, 3) := by decide +kernel
theorem d6_7 : decode c6' 7 = .ok (.ifCond .eq 18, 3) := by decide +kernel
theorem d6_10 : decode c6' 10 = .ok (.aload_n 0, 1) := by decide +kernel
theorem d6_11 : decode c6' 11 = .ok (.iload_n 1, 1) := by decide +kernel
theorem d6_12 : decode c6' 12 = .ok (.newarray .byte, 2) := by decide +kernel
theorem d6_14 : decode c6' 14 = .ok (.putfield 15, 3) := by decide +kernel
theorem d6_17 : decode c6' 17 = .ok (.aload_n 0, 1) := by decide +kernel
theorem d6_18 : decode c6' 18 = .ok (.iconst 0, 1) := by decide +kernel
theorem d6_19 : decode c6' 19 = .ok (.putfield 22, 3) := by decide +kernel
theorem d6_22 : decode c6' 22 = .ok (.goto 16, 3) := by decide +kernel
theorem d6_38 : decode c6' 38 = .ok (.return_, 1) := by decide +kernel
theorem o_rm6_s1 (hw : o_T Z a0) (Z0 : n0 ≤ h0.size) (a_1 : Addr) (u_0 u_1 u_2 u_3 : Value) (j0 : o_E12 Z h0 a_1) (j1 : o_F9 Z h0 a_1 u_0) (j2 : o_F10 Z h0 a_1 u_1) (j3 : o_F11 Z h0 a_1 u_2) (j4 : o_F8 Z h0 a_1 u_3) (j5 : o_G Z h0) (gw_a_1 : n0 ≤ a_1) :
    M6' l Z (o_rm 1 1 16 12) #[(.ref a_1), (.int 16)] h0 (fun v h L => ∃ (x_0 : Addr), v = none ∧ Fr n0 L ∧ Keep h0 h [a_1] ∧ o_E12 Z h a_1 ∧ o_F9 Z h a_1 (.int 0) ∧ o_F10 Z h a_1 u_1 ∧ o_F11 Z h a_1 u_2 ∧ o_F8 Z h a_1 (.ref x_0) ∧ o_AV Z h x_0 .byte (16 : Int32) (o_by (fun _ => 0)) ∧ (h0.size ≤ x_0)) := by
  refine o_start (plainFor_of_name o_pn3) (L0 := #[.val (.ref a_1), .val (.int 16)]) (fun _ => rfl) fun p e s m below meth c s₁ hx hby hml hown hnm hret hZ X0 e0 B H => ?_
  have N0 := Fr.nil n0
  have z0 : n0 ≤ h0.size := Z0
  have z1 := o_lt j0.lt
  have K0 : Keep h0 h0 [a_1] := Keep.refl h0 _
  refine xa X0 B d6_0 rfl rfl ?_
  obtain ⟨T2, X2, e2, st2⟩ := initO X0 hx hZ hown (o_h hw 43 rfl) (o_w12 hw) (o_w13 hw) e0 (g := (mkF m 1 #[.val (.ref a_1), .val (.int 16)] [(.ref a_1)])) rfl (by rw [hml]; rfl) rfl (hb hby d6_1) (by decide) (W := 0) (by show 2 * 0 + _ ≤ _; exact Nat.le_of_eq rfl) (by decide)
  refine o_go st2 ?_
  refine o_gs X2 B H (o_h hw 44 rfl) e2 j5.1 d6_4 fun T3 X3 e3 => ?_
  refine xn X3 B d6_7 (XT.i0_eq_f (o_hcs j5)) ?_
  refine xa X3 B d6_10 rfl rfl ?_
  refine xi X3 B d6_11 rfl ?_
  obtain ⟨T5, h5, k5, X5, e5, E5, A5, st5⟩ := newP X3 hx hZ (hw _ (List.mem_of_getElem? (i := 15) rfl)) e3 (g := (mkF m 12 #[.val (.ref a_1), .val (.int 16)] [(.int 16), (.ref a_1)])) rfl (hb hby d6_12) rfl (by decide) (cap := 16) (by decide) (by decide) (by decide) (by decide)
  obtain ⟨b5, g5⟩ : ∃ z, z = h0.size := ⟨_, rfl⟩
  rw [← g5] at A5 st5
  have z6 := E5.1
  have lt_b5 := o_lt A5.lt
  have K5 := K0.ext E5
  have V_b5 : o_AV Z h5 b5 .byte (16 : Int32) (o_by (fun _ => 0)) := o_AV.congr (o_AV.new A5 (by decide)) fun i _ => (o_by0 i).symm
  refine o_go st5 ?_
  have f7 := (j0.ext E5)
  have f8 := (j4.ext E5)
  obtain ⟨T9, h9, X9, e9, W9, st9⟩ := putF X5 hx hZ hown (host := "") (Or.inl (o_w45 hw)) Via.refl e5 f8 f7 (Or.inl (o_w46 hw)) (o_w32 hw) (ty := (.array .byte)) (by decide) rfl rfl (g := (mkF m 14 #[.val (.ref a_1), .val (.int 16)] [(.ref b5), (.ref a_1)])) rfl rfl (hb hby d6_14)
  have z10 := W9.size
  have K9 := K5.wr W9 (Or.inl o_m0)
  have N9 := Fr.snoc X9 N0 (by omega : n0 ≤ a_1)
  have Fw9 : o_F8 Z h9 a_1 (.ref b5) := Fld.same W9 f8
  refine o_go st9 ?_
  refine xa X9 B d6_17 rfl rfl ?_
  refine xc X9 B d6_18 0 rfl ?_
  have f11 := (f7.wr W9)
  have f12 := ((j1.ext E5).other W9 (Or.inr (slot_ne (Or.inl (o_w48 hw)) (Or.inl (o_w46 hw)) (by decide) (t := .byte) (t' := (.array .byte)) (by decide) (by decide))))
  obtain ⟨T13, h13, X13, e13, W13, st13⟩ := putFN X9 hx hZ hown (o_w47 hw) Via.refl e9 f12 f11 (Or.inl (o_w48 hw)) (o_w32 hw) (ty := .byte) (v' := .int 0) (by decide) (rfl) (fits_nar_byte (0 : Int32)) (g := (mkF m 19 #[.val (.ref a_1), .val (.int 16)] [(.int 0), (.ref a_1)])) rfl rfl (hb hby d6_19)
  have z14 := W13.size
  have K13 := K9.wr W13 (Or.inl o_m0)
  have N13 := Fr.snoc X13 N9 (by omega : n0 ≤ a_1)
  have Fw13 : o_F9 Z h13 a_1 (.int 0) := Fld.same W13 f12
  refine o_go st13 ?_
  refine xg X13 B 22 38 rfl d6_22 (by decide) ?_
  have f16 := (f11.wr W13)
  have f17 := (((j2.ext E5).other W9 (Or.inr (slot_ne (Or.inl (o_w72 hw)) (Or.inl (o_w46 hw)) (by decide) (t := .int) (t' := (.array .byte)) (by decide) (by decide)))).other W13 (Or.inr (slot_ne (Or.inl (o_w72 hw)) (Or.inl (o_w48 hw)) (by decide) (t := .int) (t' := .byte) (by decide) (by decide))))
  have f18 := (((j3.ext E5).other W9 (Or.inr (slot_ne (Or.inl (o_w269 hw)) (Or.inl (o_w46 hw)) (by decide) (t := .boolean) (t' := (.array .byte)) (by decide) (by decide)))).other W13 (Or.inr (slot_ne (Or.inl (o_w269 hw)) (Or.inl (o_w48 hw)) (by decide) (t := .boolean) (t' := .byte) (by decide) (by decide))))
  have f19 := (Fw9.other W13 (Or.inr (slot_ne (Or.inl (o_w46 hw)) (Or.inl (o_w48 hw)) (by decide) (t := (.array .byte)) (t' := .byte) (by decide) (by decide))))
  have f20 := ((V_b5.other W9 (o_ne (by omega))).other W13 (o_ne (by omega)))
  exact o_retV X13 B hret d6_38 (by decide) e13 ⟨b5, rfl, N13, K13, f16, Fw13, f17, f18, f19, f20, (by omega)⟩
theorem d5_0 : decode c5' 0 = .ok (.aload_n 0, 1) := by decide +kernel
theorem d5_1 : decode c5' 1 = .ok (.bipush 16, 2) := by decide +kernel
theorem d5_3 : decode c5' 3 = .ok (.invokespecial 1, 3) := by decide +kernel
theorem d5_6 : decode c5' 6 = .ok (.return_, 1) := by decide +kernel
theorem o_rm5_s1 (hw : o_T Z a0) (Z0 : n0 ≤ h0.size) (a_1 : Addr) (u_0 u_1 u_2 u_3 : Value) (j0 : o_E12 Z h0 a_1) (j1 : o_F9 Z h0 a_1 u_0) (j2 : o_F10 Z h0 a_1 u_1) (j3 : o_F11 Z h0 a_1 u_2) (j4 : o_F8 Z h0 a_1 u_3) (j5 : o_G Z h0) (gw_a_1 : n0 ≤ a_1) :
    M5' l Z (o_rm 2 1 16 25) #[(.ref a_1)] h0 (fun v h L => ∃ (x_0 : Addr), v = none ∧ Fr n0 L ∧ Keep h0 h [a_1] ∧ o_E12 Z h a_1 ∧ o_F9 Z h a_1 (.int 0) ∧ o_F10 Z h a_1 u_1 ∧ o_F11 Z h a_1 u_2 ∧ o_F8 Z h a_1 (.ref x_0) ∧ o_AV Z h x_0 .byte (16 : Int32) (o_by (fun _ => 0)) ∧ (h0.size ≤ x_0)) := by
  refine o_start (plainFor_of_name o_pn4) (L0 := #[.val (.ref a_1)]) (fun _ => rfl) fun p e s m below meth c s₁ hx hby hml hown hnm hret hZ X0 e0 B H => ?_
  have N0 := Fr.nil n0
  have z0 : n0 ≤ h0.size := Z0
  have z1 := o_lt j0.lt
  have K0 : Keep h0 h0 [a_1] := Keep.refl h0 _
  refine xa X0 B d5_0 rfl rfl ?_
  refine xb X0 B d5_1 16 rfl ?_
  refine o_csp (a := a_1) X0 B H e0 (o_rm6_s1 (n0 := n0) hw (by omega) a_1 u_0 u_1 u_2 u_3 j0 j1 j2 j3 j4 j5 (by omega)) (o_h hw 37 rfl) (o_h hw 38 rfl) (o_w41 hw) (o_h hw 42 rfl) rfl rfl (lenOf o_pd12 rfl) rfl rfl (W := 0) rfl d5_3 (by decide) ?_
  rintro _ T2 L2 X2 ⟨x_3, rfl, N2q, K2q, f4, f5, f6, f7, f8, f9, f10⟩
  have N2 := Fr.app N0 N2q
  have z11 := K2q.1
  have K2 := K0.trans K2q (allS (Or.inl o_m0) all0)
  have z12 := o_lt f4.lt
  have z13 := o_lt f9.lt
  exact o_retV X2 B hret d5_6 (by decide) rfl ⟨x_3, rfl, N2, K2, f4, f5, f6, f7, f8, f9, (by omega)⟩
theorem d10_0 : decode c10' 0 = .ok (.getstatic 38, 3) := by decide +kernel
theorem d10_3 : decode c10' 3 = .ok (.ifCond .eq 10, 3) := by decide +kernel
theorem d10_6 : decode c10' 6 = .ok (.aload_n 0, 1) := by decide +kernel
theorem d10_7 : decode c10' 7 = .ok (.getfield 15, 3) := by decide +kernel
theorem d10_10 : decode c10' 10 = .ok (.goto 4, 3) := by decide +kernel
theorem d10_14 : decode c10' 14 = .ok (.ireturn, 1) := by decide +kernel
theorem o_rm10_s1 (hw : o_T Z a0) (Z0 : n0 ≤ h0.size) (a_1 : Addr) (j0 : o_F1 Z h0 a_1 (.int 0)) (j1 : o_G Z h0) :
    M10' l Z (o_rm 0 0 0 0) #[(.ref a_1)] h0 (fun v h L => v = some (.int 0) ∧ Fr n0 L ∧ h = h0) := by
  refine o_start (plainFor_of_name o_pn2) (L0 := #[.val (.ref a_1)]) (fun _ => rfl) fun p e s m below meth c s₁ hx hby hml hown hnm hret hZ X0 e0 B H => ?_
  have N0 := Fr.nil n0
  have z0 : n0 ≤ h0.size := Z0
  have z1 := o_lt j0.lt
  refine o_gs X0 B H (o_w70 hw) e0 j1.1 d10_0 fun T2 X2 e2 => ?_
  refine xn X2 B d10_3 (XT.i0_eq_f (o_hcs j1)) ?_
  refine xa X2 B d10_6 rfl rfl ?_
  refine o_gf X2 B H (o_w21 hw) e2 j0 d10_7 fun T4 X4 e4 => ?_
  refine xg X4 B 10 14 rfl d10_10 (by decide) ?_
  exact o_retI X4 B hret (Or.inr (Or.inr (Or.inl rfl))) rfl d10_14 (by decide) e4 ⟨rfl, N0, rfl⟩
theorem d9_0 : decode c9' 0 = .ok (.aload_n 0, 1) := by decide +kernel
theorem d9_1 : decode c9' 1 = .ok (.getfield 9, 3) := by decide +kernel
theorem d9_4 : decode c9' 4 = .ok (.arraylength, 1) := by decide +kernel
theorem d9_5 : decode c9' 5 = .ok (.aload_n 0, 1) := by decide +kernel
theorem d9_6 : decode c9' 6 = .ok (.invokevirtual 335, 3) := by decide +kernel
theorem d9_9 : decode c9' 9 = .ok (.ishr, 1) := by decide +kernel
theorem d9_10 : decode c9' 10 = .ok (.ireturn, 1) := by decide +kernel
theorem o_rm9_s1 (hw : o_T Z a0) (Z0 : n0 ≤ h0.size) (a_1 ob0 : Addr) (fa_ob0 : Nat → Int32) (j0 : o_AV Z h0 ob0 .byte (62 : Int32) (o_by fa_ob0)) (j1 : o_E0 Z h0 a_1) (j2 : o_F1 Z h0 a_1 (.int 0)) (j3 : o_F2 Z h0 a_1 (.ref ob0)) (j4 : o_G Z h0) :
    M9' l Z (o_rm 1 0 0 13) #[(.ref a_1)] h0 (fun v h L => v = some (.int 62) ∧ Fr n0 L ∧ h = h0) := by
  refine o_start (plainFor_of_name o_pn2) (L0 := #[.val (.ref a_1)]) (fun _ => rfl) fun p e s m below meth c s₁ hx hby hml hown hnm hret hZ X0 e0 B H => ?_
  have N0 := Fr.nil n0
  have z0 : n0 ≤ h0.size := Z0
  have z1 := o_lt j0.lt
  have z2 := o_lt j1.lt
  refine xa X0 B d9_0 rfl rfl ?_
  refine o_gf X0 B H (o_w20 hw) e0 j3 d9_1 fun T3 X3 e3 => ?_
  refine xl X3 B H e3 j0 d9_4 ?_
  refine xa X3 B d9_5 rfl rfl ?_
  refine o_cvi X3 B H e3 (o_rm10_s1 (n0 := n0) hw (by omega) a_1  j2 j4) (o_w65 hw) (o_w67 hw) (o_w2 hw) (o_w69 hw) (o_w66 hw) (o_w68 hw) (o_w68 hw) rfl j1 rfl (lenOf o_pd14 rfl) rfl rfl (W := 1) rfl d9_6 (by decide) ?_
  rintro _ T4 L4 X4 ⟨rfl, N4q, e4⟩
  have N4 := Fr.app N0 N4q
  refine xshr X4 B d9_9 (62) rfl ?_
  exact o_retI X4 B hret (Or.inl rfl) rfl d9_10 (by decide) e4 ⟨rfl, N4, rfl⟩
theorem d14_0 : decode c14' 0 = .ok (.iload_n 0, 1) := by decide +kernel
theorem d14_1 : decode c14' 1 = .ok (.iload_n 1, 1) := by decide +kernel
theorem d14_2 : decode c14' 2 = .ok (.if_icmp .lt 7, 3) := by decide +kernel
theorem d14_5 : decode c14' 5 = .ok (.iload_n 0, 1) := by decide +kernel
theorem d14_6 : decode c14' 6 = .ok (.goto 4, 3) := by decide +kernel
theorem d14_10 : decode c14' 10 = .ok (.ireturn, 1) := by decide +kernel
theorem o_rm14_s1 (hw : o_T Z a0) (Z0 : n0 ≤ h0.size) :
    M14' l Z (o_rm 0 0 0 0) #[(.int 46), (.int 18)] h0 (fun v h L => v = some (.int 46) ∧ Fr n0 L ∧ h = h0) := by
  refine o_start (Jvm.Free.JP.mathPlain rfl (by decide +kernel)) (L0 := #[.val (.int 46), .val (.int 18)]) (fun _ => rfl) fun p e s m below meth c s₁ hx hby hml hown hnm hret hZ X0 e0 B H => ?_
  have N0 := Fr.nil n0
  have z0 : n0 ≤ h0.size := Z0
  refine xi X0 B d14_0 rfl ?_
  refine xi X0 B d14_1 rfl ?_
  have hc1 : ¬ ((46 : Int32) < (18 : Int32)) := by decide
  refine xm X0 B d14_2 (XT.ii_lt_f hc1) ?_
  refine xi X0 B d14_5 rfl ?_
  refine xg X0 B 6 10 rfl d14_6 (by decide) ?_
  exact o_retI X0 B hret (Or.inl rfl) rfl d14_10 (by decide) e0 ⟨rfl, N0, rfl⟩
theorem d13_0 : decode c13' 0 = .ok (.iload_n 0, 1) := by decide +kernel
theorem d13_1 : decode c13' 1 = .ok (.iload_n 1, 1) := by decide +kernel
theorem d13_2 : decode c13' 2 = .ok (.iload_n 2, 1) := by decide +kernel
theorem d13_3 : decode c13' 3 = .ok (.invokestatic 194, 3) := by decide +kernel
theorem d13_6 : decode c13' 6 = .ok (.iadd, 1) := by decide +kernel
theorem d13_7 : decode c13' 7 = .ok (.istore_n 3, 1) := by decide +kernel
theorem d13_8 : decode c13' 8 = .ok (.iconst 0, 1) := by decide +kernel
theorem d13_9 : decode c13' 9 = .ok (.iload_n 3, 1) := by decide +kernel
theorem d13_10 : decode c13' 10 = .ok (.if_icmp .ge 11, 3) := by decide +kernel
theorem d13_13 : decode c13' 13 = .ok (.iload_n 3, 1) := by decide +kernel
theorem d13_14 : decode c13' 14 = .ok (.ldc 200, 2) := by decide +kernel
theorem d13_16 : decode c13' 16 = .ok (.if_icmp .gt 5, 3) := by decide +kernel
theorem d13_19 : decode c13' 19 = .ok (.iload_n 3, 1) := by decide +kernel
theorem d13_20 : decode c13' 20 = .ok (.ireturn, 1) := by decide +kernel
theorem o_rm13_s1 (hw : o_T Z a0) (Z0 : n0 ≤ h0.size) :
    M13' l Z (o_rm 1 0 0 14) #[(.int 16), (.int 46), (.int 18)] h0 (fun v h L => v = some (.int 62) ∧ Fr n0 L ∧ h = h0) := by
  refine o_start (plainFor_of_name o_pn5) (L0 := #[.val (.int 16), .val (.int 46), .val (.int 18), .unset]) (fun _ => rfl) fun p e s m below meth c s₁ hx hby hml hown hnm hret hZ X0 e0 B H => ?_
  have N0 := Fr.nil n0
  have z0 : n0 ≤ h0.size := Z0
  refine xi X0 B d13_0 rfl ?_
  refine xi X0 B d13_1 rfl ?_
  refine xi X0 B d13_2 rfl ?_
  refine o_cst X0 B H e0 (o_rm14_s1 (n0 := n0) hw (by omega)   ) (o_h hw 87 rfl) (o_h hw 88 rfl) (o_w89 hw) (o_h hw 90 rfl) rfl (lenOf o_pd16 rfl) rfl rfl (W := 1) rfl d13_3 (by decide) ?_
  rintro _ T1 L1 X1 ⟨rfl, N1q, e1⟩
  have N1 := Fr.app N0 N1q
  refine xadd X1 B d13_6 (62) rfl ?_
  refine xs X1 B d13_7 (l' := #[.val (.int 16), .val (.int 46), .val (.int 18), .val (.int 62)]) rfl ?_
  refine xc X1 B d13_8 0 rfl ?_
  refine xi X1 B d13_9 rfl ?_
  have hc2 : (0 : Int32) < (62 : Int32) := by decide
  refine xm X1 B d13_10 (XT.ii_ge_f hc2) ?_
  refine xi X1 B d13_13 rfl ?_
  refine o_go (fun _ k => X1.ldcInt hx hown (mvT hZ (o_h hw 91 rfl)) (g := (mkF m 14 #[.val (.int 16), .val (.int 46), .val (.int 18), .val (.int 62)] [(.int 62)])) rfl (hb hby d13_14) _ k) ?_
  show o_Go _ _ _ _ T1 (mkF m 16 #[.val (.int 16), .val (.int 46), .val (.int 18), .val (.int 62)] [(.int 2147483639), (.int 62)])
  have hc3 : ¬ ((2147483639 : Int32) < (62 : Int32)) := by decide
  refine xm X1 B d13_16 (XT.ii_gt_f hc3) ?_
  refine xi X1 B d13_19 rfl ?_
  exact o_retI X1 B hret (Or.inl rfl) rfl d13_20 (by decide) e1 ⟨rfl, N1, rfl⟩
theorem d12_0 : decode c12' 0 = .ok (.aload_n 0, 1) := by decide +kernel
theorem d12_1 : decode c12' 1 = .ok (.getfield 15, 3) := by decide +kernel
theorem d12_4 : decode c12' 4 = .ok (.arraylength, 1) := by decide +kernel
theorem d12_5 : decode c12' 5 = .ok (.istore_n 2, 1) := by decide +kernel
theorem d12_6 : decode c12' 6 = .ok (.iload_n 1, 1) := by decide +kernel
theorem d12_7 : decode c12' 7 = .ok (.aload_n 0, 1) := by decide +kernel
theorem d12_8 : decode c12' 8 = .ok (.getfield 22, 3) := by decide +kernel
theorem d12_11 : decode c12' 11 = .ok (.ishl, 1) := by decide +kernel
theorem d12_12 : decode c12' 12 = .ok (.istore_n 3, 1) := by decide +kernel
theorem d12_13 : decode c12' 13 = .ok (.iload_n 3, 1) := by decide +kernel
theorem d12_14 : decode c12' 14 = .ok (.iload_n 2, 1) := by decide +kernel
theorem d12_15 : decode c12' 15 = .ok (.isub, 1) := by decide +kernel
theorem d12_16 : decode c12' 16 = .ok (.istore 4, 2) := by decide +kernel
theorem d12_18 : decode c12' 18 = .ok (.iload_n 2, 1) := by decide +kernel
theorem d12_19 : decode c12' 19 = .ok (.iload 4, 2) := by decide +kernel
theorem d12_21 : decode c12' 21 = .ok (.iload_n 2, 1) := by decide +kernel
theorem d12_22 : decode c12' 22 = .ok (.iconst 2, 1) := by decide +kernel
theorem d12_23 : decode c12' 23 = .ok (.aload_n 0, 1) := by decide +kernel
theorem d12_24 : decode c12' 24 = .ok (.getfield 22, 3) := by decide +kernel
theorem d12_27 : decode c12' 27 = .ok (.ishl, 1) := by decide +kernel
theorem d12_28 : decode c12' 28 = .ok (.iadd, 1) := by decide +kernel
theorem d12_29 : decode c12' 29 = .ok (.invokestatic 114, 3) := by decide +kernel
theorem d12_32 : decode c12' 32 = .ok (.istore 5, 2) := by decide +kernel
theorem d12_34 : decode c12' 34 = .ok (.iload 5, 2) := by decide +kernel
theorem d12_36 : decode c12' 36 = .ok (.ldc 39, 2) := by decide +kernel
theorem d12_38 : decode c12' 38 = .ok (.if_icmp .ne 13, 3) := by decide +kernel
theorem d12_51 : decode c12' 51 = .ok (.iload 5, 2) := by decide +kernel
theorem d12_53 : decode c12' 53 = .ok (.aload_n 0, 1) := by decide +kernel
theorem d12_54 : decode c12' 54 = .ok (.getfield 22, 3) := by decide +kernel
theorem d12_57 : decode c12' 57 = .ok (.ishr, 1) := by decide +kernel
theorem d12_58 : decode c12' 58 = .ok (.ireturn, 1) := by decide +kernel
theorem o_rm12_s1 (hw : o_T Z a0) (Z0 : n0 ≤ h0.size) (a_1 ob0 : Addr) (fa_ob0 : Nat → Int32) (j0 : o_AV Z h0 ob0 .byte (16 : Int32) (o_by fa_ob0)) (j1 : o_F9 Z h0 a_1 (.int 0)) (j2 : o_F8 Z h0 a_1 (.ref ob0)) :
    M12' l Z (o_rm 2 0 0 29) #[(.ref a_1), (.int 62)] h0 (fun v h L => v = some (.int 62) ∧ Fr n0 L ∧ h = h0) := by
  refine o_start (plainFor_of_name o_pn3) (L0 := #[.val (.ref a_1), .val (.int 62), .unset, .unset, .unset, .unset]) (fun _ => rfl) fun p e s m below meth c s₁ hx hby hml hown hnm hret hZ X0 e0 B H => ?_
  have N0 := Fr.nil n0
  have z0 : n0 ≤ h0.size := Z0
  have z1 := o_lt j0.lt
  have z2 := o_lt j1.lt
  refine xa X0 B d12_0 rfl rfl ?_
  refine o_gf X0 B H (o_w45 hw) e0 j2 d12_1 fun T3 X3 e3 => ?_
  refine xl X3 B H e3 j0 d12_4 ?_
  refine xs X3 B d12_5 (l' := #[.val (.ref a_1), .val (.int 62), .val (.int 16), .unset, .unset, .unset]) rfl ?_
  refine xi X3 B d12_6 rfl ?_
  refine xa X3 B d12_7 rfl rfl ?_
  refine o_gf X3 B H (o_w47 hw) e3 j1 d12_8 fun T4 X4 e4 => ?_
  refine xshl X4 B d12_11 (62) rfl ?_
  refine xs X4 B d12_12 (l' := #[.val (.ref a_1), .val (.int 62), .val (.int 16), .val (.int 62), .unset, .unset]) rfl ?_
  refine xi X4 B d12_13 rfl ?_
  refine xi X4 B d12_14 rfl ?_
  refine xsub X4 B d12_15 (46) rfl ?_
  refine xS X4 B d12_16 (l' := #[.val (.ref a_1), .val (.int 62), .val (.int 16), .val (.int 62), .val (.int 46), .unset]) rfl ?_
  refine xi X4 B d12_18 rfl ?_
  refine xI X4 B d12_19 rfl ?_
  refine xi X4 B d12_21 rfl ?_
  refine xc X4 B d12_22 2 rfl ?_
  refine xa X4 B d12_23 rfl rfl ?_
  refine o_gf X4 B H (o_w47 hw) e4 j1 d12_24 fun T5 X5 e5 => ?_
  refine xshl X5 B d12_27 (2) rfl ?_
  refine xadd X5 B d12_28 (18) rfl ?_
  refine o_cst X5 B H e5 (o_rm13_s1 (n0 := n0) hw (by omega)   ) (o_h hw 83 rfl) (o_h hw 84 rfl) (o_h hw 85 rfl) (o_h hw 86 rfl) rfl (lenOf o_pd17 rfl) rfl rfl (W := 0) rfl d12_29 (by decide) ?_
  rintro _ T6 L6 X6 ⟨rfl, N6q, e6⟩
  have N6 := Fr.app N0 N6q
  refine xS X6 B d12_32 (l' := #[.val (.ref a_1), .val (.int 62), .val (.int 16), .val (.int 62), .val (.int 46), .val (.int 62)]) rfl ?_
  refine xI X6 B d12_34 rfl ?_
  refine o_go (fun _ k => X6.ldcInt hx hown (mvT hZ (o_h hw 92 rfl)) (g := (mkF m 36 #[.val (.ref a_1), .val (.int 62), .val (.int 16), .val (.int 62), .val (.int 46), .val (.int 62)] [(.int 62)])) rfl (hb hby d12_36) _ k) ?_
  show o_Go _ _ _ _ T6 (mkF m 38 #[.val (.ref a_1), .val (.int 62), .val (.int 16), .val (.int 62), .val (.int 46), .val (.int 62)] [(.int 2147483647), (.int 62)])
  have hc7 : ¬ ((62 : Int32) = (2147483647 : Int32)) := by decide
  refine xM X6 B 38 51 rfl d12_38 (XT.ii_ne_t hc7) (by decide) ?_
  refine xI X6 B d12_51 rfl ?_
  refine xa X6 B d12_53 rfl rfl ?_
  refine o_gf X6 B H (o_w47 hw) e6 j1 d12_54 fun T8 X8 e8 => ?_
  refine xshr X8 B d12_57 (62) rfl ?_
  exact o_retI X8 B hret (Or.inl rfl) rfl d12_58 (by decide) e8 ⟨rfl, N6, rfl⟩
theorem d16_0 : decode c16' 0 = .ok (.iload_n 0, 1) := by decide +kernel
theorem d16_1 : decode c16' 1 = .ok (.iload_n 1, 1) := by decide +kernel
theorem d16_2 : decode c16' 2 = .ok (.if_icmp .gt 7, 3) := by decide +kernel
theorem d16_5 : decode c16' 5 = .ok (.iload_n 0, 1) := by decide +kernel
theorem d16_6 : decode c16' 6 = .ok (.goto 4, 3) := by decide +kernel
theorem d16_10 : decode c16' 10 = .ok (.ireturn, 1) := by decide +kernel
theorem o_rm16_s1 (hw : o_T Z a0) (Z0 : n0 ≤ h0.size) :
    M16' l Z (o_rm 0 0 0 0) #[(.int 16), (.int 62)] h0 (fun v h L => v = some (.int 16) ∧ Fr n0 L ∧ h = h0) := by
  refine o_start (Jvm.Free.JP.mathPlain rfl (by decide +kernel)) (L0 := #[.val (.int 16), .val (.int 62)]) (fun _ => rfl) fun p e s m below meth c s₁ hx hby hml hown hnm hret hZ X0 e0 B H => ?_
  have N0 := Fr.nil n0
  have z0 : n0 ≤ h0.size := Z0
  refine xi X0 B d16_0 rfl ?_
  refine xi X0 B d16_1 rfl ?_
  have hc1 : ¬ ((62 : Int32) < (16 : Int32)) := by decide
  refine xm X0 B d16_2 (XT.ii_gt_f hc1) ?_
  refine xi X0 B d16_5 rfl ?_
  refine xg X0 B 6 10 rfl d16_6 (by decide) ?_
  exact o_retI X0 B hret (Or.inl rfl) rfl d16_10 (by decide) e0 ⟨rfl, N0, rfl⟩
theorem d15_0 : decode c15' 0 = .ok (.iload_n 1, 1) := by decide +kernel
theorem d15_1 : decode c15' 1 = .ok (.aload_n 0, 1) := by decide +kernel
theorem d15_2 : decode c15' 2 = .ok (.arraylength, 1) := by decide +kernel
theorem d15_3 : decode c15' 3 = .ok (.if_icmp .ne 11, 3) := by decide +kernel
theorem d15_14 : decode c15' 14 = .ok (.iload_n 1, 1) := by decide +kernel
theorem d15_15 : decode c15' 15 = .ok (.newarray .byte, 2) := by decide +kernel
theorem d15_17 : decode c15' 17 = .ok (.astore_n 2, 1) := by decide +kernel
theorem d15_18 : decode c15' 18 = .ok (.aload_n 0, 1) := by decide +kernel
theorem d15_19 : decode c15' 19 = .ok (.iconst 0, 1) := by decide +kernel
theorem d15_20 : decode c15' 20 = .ok (.aload_n 2, 1) := by decide +kernel
theorem d15_21 : decode c15' 21 = .ok (.iconst 0, 1) := by decide +kernel
theorem d15_22 : decode c15' 22 = .ok (.aload_n 0, 1) := by decide +kernel
theorem d15_23 : decode c15' 23 = .ok (.arraylength, 1) := by decide +kernel
theorem d15_24 : decode c15' 24 = .ok (.iload_n 1, 1) := by decide +kernel
theorem d15_25 : decode c15' 25 = .ok (.invokestatic 304, 3) := by decide +kernel
theorem d15_28 : decode c15' 28 = .ok (.invokestatic 150, 3) := by decide +kernel
theorem d15_31 : decode c15' 31 = .ok (.aload_n 2, 1) := by decide +kernel
theorem d15_32 : decode c15' 32 = .ok (.areturn, 1) := by decide +kernel
theorem o_rm15_s1 (hw : o_T Z a0) (Z0 : n0 ≤ h0.size) (a_1 : Addr) (fa_a_1 : Nat → Int32) (j0 : o_AV Z h0 a_1 .byte (16 : Int32) (o_by fa_a_1)) :
    M15' l Z (o_rm 1 1 62 40) #[(.ref a_1), (.int 62)] h0 (fun v h L => ∃ (x_0 : Addr), v = some (.ref x_0) ∧ Fr n0 L ∧ Keep h0 h [] ∧ o_AV Z h x_0 .byte (62 : Int32) (o_by (o_cpi fa_a_1 0 (fun _ => 0) 0 16)) ∧ (h0.size ≤ x_0)) := by
  refine o_start (plainFor_of_name o_pn6) (L0 := #[.val (.ref a_1), .val (.int 62), .unset]) (fun _ => rfl) fun p e s m below meth c s₁ hx hby hml hown hnm hret hZ X0 e0 B H => ?_
  have N0 := Fr.nil n0
  have z0 : n0 ≤ h0.size := Z0
  have z1 := o_lt j0.lt
  have K0 : Keep h0 h0 [] := Keep.refl h0 _
  refine xi X0 B d15_0 rfl ?_
  refine xa X0 B d15_1 rfl rfl ?_
  refine xl X0 B H e0 j0 d15_2 ?_
  have hc2 : ¬ ((62 : Int32) = (16 : Int32)) := by decide
  refine xM X0 B 3 14 rfl d15_3 (XT.ii_ne_t hc2) (by decide) ?_
  refine xi X0 B d15_14 rfl ?_
  obtain ⟨T3, h3, k3, X3, e3, E3, A3, st3⟩ := newP X0 hx hZ (hw _ (List.mem_of_getElem? (i := 15) rfl)) e0 (g := (mkF m 15 #[.val (.ref a_1), .val (.int 62), .unset] [(.int 62)])) rfl (hb hby d15_15) rfl (by decide) (cap := 62) (by decide) (by decide) (by decide) (by decide)
  obtain ⟨b3, g3⟩ : ∃ z, z = h0.size := ⟨_, rfl⟩
  rw [← g3] at A3 st3
  have z4 := E3.1
  have lt_b3 := o_lt A3.lt
  have K3 := K0.ext E3
  have V_b3 : o_AV Z h3 b3 .byte (62 : Int32) (o_by (fun _ => 0)) := o_AV.congr (o_AV.new A3 (by decide)) fun i _ => (o_by0 i).symm
  refine o_go st3 ?_
  refine xt X3 B d15_17 rfl (l' := #[.val (.ref a_1), .val (.int 62), .val (.ref b3)]) rfl ?_
  refine xa X3 B d15_18 rfl rfl ?_
  refine xc X3 B d15_19 0 rfl ?_
  refine xa X3 B d15_20 rfl rfl ?_
  refine xc X3 B d15_21 0 rfl ?_
  refine xa X3 B d15_22 rfl rfl ?_
  have f5 := (j0.ext E3)
  refine xl X3 B H e3 f5 d15_23 ?_
  refine xi X3 B d15_24 rfl ?_
  refine o_cst X3 B H e3 (o_rm16_s1 (n0 := n0) hw (by omega)   ) (o_h hw 97 rfl) (o_h hw 98 rfl) (o_w89 hw) (o_h hw 99 rfl) rfl (lenOf o_pd16 rfl) rfl rfl (W := 4) rfl d15_25 (by decide) ?_
  rintro _ T6 L6 X6 ⟨rfl, N6q, e6⟩
  have N6 := Fr.app N0 N6q
  obtain ⟨T7, h7, L7, X7, e7, N7, Kq7, V7, st7⟩ := o_cpB X6 hx hZ hown (o_h hw 100 rfl) (o_w103 hw) (o_w101 hw) (o_w102 hw) e6 f5 V_b3 (sp' := 0) (dp' := 0) (nn' := 16) (by decide) (by decide) (by decide) (by decide) (by decide) (by decide) (by decide) (by decide) N6 (by omega) (g := (mkF m 28 #[.val (.ref a_1), .val (.int 62), .val (.ref b3)] [(.int 16), (.int 0), (.ref b3), (.int 0), (.ref a_1)])) rfl (by rw [hml]; rfl) rfl (hb hby d15_28) (by decide) (W := 0) (by show 2 * 0 + _ ≤ _; exact Nat.le_of_eq rfl) (by decide)
  have z8 := Kq7.1
  have K7 := K3.trans Kq7 (allS (Or.inr (by omega)) all0)
  refine o_go st7 ?_
  refine xa X7 B d15_31 rfl rfl ?_
  exact o_retA X7 B hret rfl rfl rfl d15_32 (by decide) e7 ⟨b3, rfl, N7, K7, V7, (by omega)⟩
theorem d11_0 : decode c11' 0 = .ok (.aload_n 0, 1) := by decide +kernel
theorem d11_1 : decode c11' 1 = .ok (.getfield 15, 3) := by decide +kernel
theorem d11_4 : decode c11' 4 = .ok (.arraylength, 1) := by decide +kernel
theorem d11_5 : decode c11' 5 = .ok (.aload_n 0, 1) := by decide +kernel
theorem d11_6 : decode c11' 6 = .ok (.getfield 22, 3) := by decide +kernel
theorem d11_9 : decode c11' 9 = .ok (.ishr, 1) := by decide +kernel
theorem d11_10 : decode c11' 10 = .ok (.istore_n 2, 1) := by decide +kernel
theorem d11_11 : decode c11' 11 = .ok (.iload_n 1, 1) := by decide +kernel
theorem d11_12 : decode c11' 12 = .ok (.iload_n 2, 1) := by decide +kernel
theorem d11_13 : decode c11' 13 = .ok (.isub, 1) := by decide +kernel
theorem d11_14 : decode c11' 14 = .ok (.ifCond .le 24, 3) := by decide +kernel
theorem d11_17 : decode c11' 17 = .ok (.aload_n 0, 1) := by decide +kernel
theorem d11_18 : decode c11' 18 = .ok (.aload_n 0, 1) := by decide +kernel
theorem d11_19 : decode c11' 19 = .ok (.getfield 15, 3) := by decide +kernel
theorem d11_22 : decode c11' 22 = .ok (.aload_n 0, 1) := by decide +kernel
theorem d11_23 : decode c11' 23 = .ok (.iload_n 1, 1) := by decide +kernel
theorem d11_24 : decode c11' 24 = .ok (.invokevirtual 104, 3) := by decide +kernel
theorem d11_27 : decode c11' 27 = .ok (.aload_n 0, 1) := by decide +kernel
theorem d11_28 : decode c11' 28 = .ok (.getfield 22, 3) := by decide +kernel
theorem d11_31 : decode c11' 31 = .ok (.ishl, 1) := by decide +kernel
theorem d11_32 : decode c11' 32 = .ok (.invokestatic 108, 3) := by decide +kernel
theorem d11_35 : decode c11' 35 = .ok (.putfield 15, 3) := by decide +kernel
theorem d11_38 : decode c11' 38 = .ok (.return_, 1) := by decide +kernel
theorem o_rm11_s1 (hw : o_T Z a0) (Z0 : n0 ≤ h0.size) (a_1 ob0 : Addr) (fa_ob0 : Nat → Int32) (u_0 u_1 : Value) (j0 : o_AV Z h0 ob0 .byte (16 : Int32) (o_by fa_ob0)) (j1 : o_E12 Z h0 a_1) (j2 : o_F9 Z h0 a_1 (.int 0)) (j3 : o_F10 Z h0 a_1 u_0) (j4 : o_F11 Z h0 a_1 u_1) (j5 : o_F8 Z h0 a_1 (.ref ob0)) (hd_a_1_ob0 : o_df a_1 ob0) (gw_a_1 : n0 ≤ a_1) :
    M11' l Z (o_rm 3 1 62 55) #[(.ref a_1), (.int 62)] h0 (fun v h L => ∃ (x_0 : Addr), v = none ∧ Fr n0 L ∧ Keep h0 h [a_1] ∧ o_E12 Z h a_1 ∧ o_F9 Z h a_1 (.int 0) ∧ o_F10 Z h a_1 u_0 ∧ o_F11 Z h a_1 u_1 ∧ o_F8 Z h a_1 (.ref x_0) ∧ o_AV Z h x_0 .byte (62 : Int32) (o_by (o_cpi fa_ob0 0 (fun _ => 0) 0 16)) ∧ (h0.size ≤ x_0)) := by
  refine o_start (plainFor_of_name o_pn3) (L0 := #[.val (.ref a_1), .val (.int 62), .unset]) (fun _ => rfl) fun p e s m below meth c s₁ hx hby hml hown hnm hret hZ X0 e0 B H => ?_
  have N0 := Fr.nil n0
  have z0 : n0 ≤ h0.size := Z0
  have z1 := o_lt j0.lt
  have z2 := o_lt j1.lt
  have K0 : Keep h0 h0 [a_1] := Keep.refl h0 _
  refine xa X0 B d11_0 rfl rfl ?_
  refine o_gf X0 B H (o_w45 hw) e0 j5 d11_1 fun T3 X3 e3 => ?_
  refine xl X3 B H e3 j0 d11_4 ?_
  refine xa X3 B d11_5 rfl rfl ?_
  refine o_gf X3 B H (o_w47 hw) e3 j2 d11_6 fun T4 X4 e4 => ?_
  refine xshr X4 B d11_9 (16) rfl ?_
  refine xs X4 B d11_10 (l' := #[.val (.ref a_1), .val (.int 62), .val (.int 16)]) rfl ?_
  refine xi X4 B d11_11 rfl ?_
  refine xi X4 B d11_12 rfl ?_
  refine xsub X4 B d11_13 (46) rfl ?_
  have hc5 : 0 < (46 : Int32) := by decide
  refine xn X4 B d11_14 (XT.i0_le_f hc5) ?_
  refine xa X4 B d11_17 rfl rfl ?_
  refine xa X4 B d11_18 rfl rfl ?_
  refine o_gf X4 B H (o_w45 hw) e4 j5 d11_19 fun T6 X6 e6 => ?_
  refine xa X6 B d11_22 rfl rfl ?_
  refine xi X6 B d11_23 rfl ?_
  refine o_cpr X6 B H e6 (o_rm12_s1 (n0 := n0) hw (by omega) a_1 ob0 fa_ob0 j0 j2 j5) (o_h hw 78 rfl) (o_h hw 79 rfl) (o_w41 hw) (o_h hw 82 rfl) (o_h hw 81 rfl) (o_h hw 80 rfl) j1 rfl (lenOf o_pd5 rfl) rfl rfl (W := 2) rfl d11_24 (by decide) ?_
  rintro _ T7 L7 X7 ⟨rfl, N7q, e7⟩
  have N7 := Fr.app N0 N7q
  refine xa X7 B d11_27 rfl rfl ?_
  refine o_gf X7 B H (o_w47 hw) e7 j2 d11_28 fun T8 X8 e8 => ?_
  refine xshl X8 B d11_31 (62) rfl ?_
  refine o_cst X8 B H e8 (o_rm15_s1 (n0 := n0) hw (by omega) ob0 fa_ob0 j0) (o_h hw 93 rfl) (o_h hw 94 rfl) (o_w95 hw) (o_h hw 96 rfl) rfl (lenOf o_pd18 rfl) rfl rfl (W := 1) rfl d11_32 (by decide) ?_
  rintro _ T9 L9 X9 ⟨x_10, rfl, N9q, K9q, f11, f12⟩
  have N9 := Fr.app N7 N9q
  have z13 := K9q.1
  have K9 := K0.trans K9q all0
  have z14 := o_lt f11.lt
  have f15 := (j1.keep K9q)
  have f16 := (j5.keep K9q nin0)
  obtain ⟨T17, h17, X17, e17, W17, st17⟩ := putF X9 hx hZ hown (host := "") (Or.inl (o_w45 hw)) Via.refl rfl f16 f15 (Or.inl (o_w46 hw)) (o_w32 hw) (ty := (.array .byte)) (by decide) rfl rfl (g := (mkF m 35 #[.val (.ref a_1), .val (.int 62), .val (.int 16)] [(.ref x_10), (.ref a_1)])) rfl rfl (hb hby d11_35)
  have z18 := W17.size
  have K17 := K9.wr W17 (Or.inl o_m0)
  have N17 := Fr.snoc X17 N9 (by omega : n0 ≤ a_1)
  have Fw17 : o_F8 Z h17 a_1 (.ref x_10) := Fld.same W17 f16
  refine o_go st17 ?_
  have f20 := (f15.wr W17)
  have f21 := ((j2.keep K9q nin0).other W17 (Or.inr (slot_ne (Or.inl (o_w48 hw)) (Or.inl (o_w46 hw)) (by decide) (t := .byte) (t' := (.array .byte)) (by decide) (by decide))))
  have f22 := ((j3.keep K9q nin0).other W17 (Or.inr (slot_ne (Or.inl (o_w72 hw)) (Or.inl (o_w46 hw)) (by decide) (t := .int) (t' := (.array .byte)) (by decide) (by decide))))
  have f23 := ((j4.keep K9q nin0).other W17 (Or.inr (slot_ne (Or.inl (o_w269 hw)) (Or.inl (o_w46 hw)) (by decide) (t := .boolean) (t' := (.array .byte)) (by decide) (by decide))))
  have f24 := (f11.other W17 (o_ne (by omega)))
  exact o_retV X17 B hret d11_38 (by decide) e17 ⟨x_10, rfl, N17, K17, f20, f21, f22, f23, Fw17, f24, (by omega)⟩
theorem d18_0 : decode c18' 0 = .ok (.getstatic 18, 3) := by decide +kernel
theorem d18_3 : decode c18' 3 = .ok (.ifCond .eq 18, 3) := by decide +kernel
theorem d18_6 : decode c18' 6 = .ok (.aload_n 0, 1) := by decide +kernel
theorem d18_7 : decode c18' 7 = .ok (.getfield 22, 3) := by decide +kernel
theorem d18_10 : decode c18' 10 = .ok (.aload_n 1, 1) := by decide +kernel
theorem d18_11 : decode c18' 11 = .ok (.invokevirtual 40, 3) := by decide +kernel
theorem d18_14 : decode c18' 14 = .ok (.if_icmp .eq 7, 3) := by decide +kernel
theorem d18_21 : decode c18' 21 = .ok (.return_, 1) := by decide +kernel
theorem o_rm18_s1 (hw : o_T Z a0) (Z0 : n0 ≤ h0.size) (a_1 a_2 : Addr) (j0 : o_E0 Z h0 a_2) (j1 : o_F9 Z h0 a_1 (.int 0)) (j2 : o_F1 Z h0 a_2 (.int 0)) (j3 : o_G Z h0) :
    M18' l Z (o_rm 1 0 0 13) #[(.ref a_1), (.ref a_2)] h0 (fun v h L => v = none ∧ Fr n0 L ∧ h = h0) := by
  refine o_start (plainFor_of_name o_pn3) (L0 := #[.val (.ref a_1), .val (.ref a_2)]) (fun _ => rfl) fun p e s m below meth c s₁ hx hby hml hown hnm hret hZ X0 e0 B H => ?_
  have N0 := Fr.nil n0
  have z0 : n0 ≤ h0.size := Z0
  have z1 := o_lt j0.lt
  have z2 := o_lt j1.lt
  refine o_gs X0 B H (o_h hw 44 rfl) e0 j3.1 d18_0 fun T3 X3 e3 => ?_
  refine xn X3 B d18_3 (XT.i0_eq_f (o_hcs j3)) ?_
  refine xa X3 B d18_6 rfl rfl ?_
  refine o_gf X3 B H (o_w47 hw) e3 j1 d18_7 fun T5 X5 e5 => ?_
  refine xa X5 B d18_10 rfl rfl ?_
  refine o_cvi X5 B H e5 (o_rm10_s1 (n0 := n0) hw (by omega) a_2  j2 j3) (o_h hw 114 rfl) (o_w67 hw) (o_w2 hw) (o_w69 hw) (o_w66 hw) (o_w68 hw) (o_w68 hw) rfl j0 rfl (lenOf o_pd14 rfl) rfl rfl (W := 1) rfl d18_11 (by decide) ?_
  rintro _ T6 L6 X6 ⟨rfl, N6q, e6⟩
  have N6 := Fr.app N0 N6q
  have hc7 : (0 : Int32) = (0 : Int32) := by decide
  refine xM X6 B 14 21 rfl d18_14 (XT.ii_eq_t hc7) (by decide) ?_
  exact o_retV X6 B hret d18_21 (by decide) e6 ⟨rfl, N6, rfl⟩
theorem d19_0 : decode c19' 0 = .ok (.aload_n 0, 1) := by decide +kernel
theorem d19_1 : decode c19' 1 = .ok (.invokevirtual 335, 3) := by decide +kernel
theorem d19_4 : decode c19' 4 = .ok (.iload_n 3, 1) := by decide +kernel
theorem d19_5 : decode c19' 5 = .ok (.if_icmp .ne 23, 3) := by decide +kernel
theorem d19_8 : decode c19' 8 = .ok (.aload_n 0, 1) := by decide +kernel
theorem d19_9 : decode c19' 9 = .ok (.getfield 9, 3) := by decide +kernel
theorem d19_12 : decode c19' 12 = .ok (.iconst 0, 1) := by decide +kernel
theorem d19_13 : decode c19' 13 = .ok (.aload_n 1, 1) := by decide +kernel
theorem d19_14 : decode c19' 14 = .ok (.iload_n 2, 1) := by decide +kernel
theorem d19_15 : decode c19' 15 = .ok (.iload_n 3, 1) := by decide +kernel
theorem d19_16 : decode c19' 16 = .ok (.ishl, 1) := by decide +kernel
theorem d19_17 : decode c19' 17 = .ok (.aload_n 0, 1) := by decide +kernel
theorem d19_18 : decode c19' 18 = .ok (.getfield 9, 3) := by decide +kernel
theorem d19_21 : decode c19' 21 = .ok (.arraylength, 1) := by decide +kernel
theorem d19_22 : decode c19' 22 = .ok (.invokestatic 212, 3) := by decide +kernel
theorem d19_25 : decode c19' 25 = .ok (.goto 18, 3) := by decide +kernel
theorem d19_43 : decode c19' 43 = .ok (.return_, 1) := by decide +kernel
theorem o_rm19_s1 (hw : o_T Z a0) (Z0 : n0 ≤ h0.size) (a_1 a_2 ob0 : Addr) (fa_a_2 fa_ob0 : Nat → Int32) (j0 : o_AV Z h0 a_2 .byte (62 : Int32) (o_by fa_a_2)) (j1 : o_AV Z h0 ob0 .byte (62 : Int32) (o_by fa_ob0)) (j2 : o_E0 Z h0 a_1) (j3 : o_F1 Z h0 a_1 (.int 0)) (j4 : o_F2 Z h0 a_1 (.ref ob0)) (j5 : o_G Z h0) (hd_a_1_a_2 : o_df a_1 a_2) (hd_a_2_ob0 : o_df a_2 ob0) (gw_a_2 : n0 ≤ a_2) :
    M19' l Z (o_rm 1 0 0 40) #[(.ref a_1), (.ref a_2), (.int 0), (.int 0)] h0 (fun v h L => v = none ∧ Fr n0 L ∧ Keep h0 h [a_2] ∧ o_AV Z h a_2 .byte (62 : Int32) (o_by (o_cpi fa_ob0 0 fa_a_2 0 62))) := by
  refine o_start (plainFor_of_name o_pn2) (L0 := #[.val (.ref a_1), .val (.ref a_2), .val (.int 0), .val (.int 0)]) (fun _ => rfl) fun p e s m below meth c s₁ hx hby hml hown hnm hret hZ X0 e0 B H => ?_
  have N0 := Fr.nil n0
  have z0 : n0 ≤ h0.size := Z0
  have z1 := o_lt j0.lt
  have z2 := o_lt j1.lt
  have z3 := o_lt j2.lt
  have K0 : Keep h0 h0 [a_2] := Keep.refl h0 _
  refine xa X0 B d19_0 rfl rfl ?_
  refine o_cvi X0 B H e0 (o_rm10_s1 (n0 := n0) hw (by omega) a_1  j3 j5) (o_w65 hw) (o_w67 hw) (o_w2 hw) (o_w69 hw) (o_w66 hw) (o_w68 hw) (o_w68 hw) rfl j2 rfl (lenOf o_pd14 rfl) rfl rfl (W := 0) rfl d19_1 (by decide) ?_
  rintro _ T4 L4 X4 ⟨rfl, N4q, e4⟩
  have N4 := Fr.app N0 N4q
  refine xi X4 B d19_4 rfl ?_
  have hc5 : (0 : Int32) = (0 : Int32) := by decide
  refine xm X4 B d19_5 (XT.ii_ne_f hc5) ?_
  refine xa X4 B d19_8 rfl rfl ?_
  refine o_gf X4 B H (o_w20 hw) e4 j4 d19_9 fun T6 X6 e6 => ?_
  refine xc X6 B d19_12 0 rfl ?_
  refine xa X6 B d19_13 rfl rfl ?_
  refine xi X6 B d19_14 rfl ?_
  refine xi X6 B d19_15 rfl ?_
  refine xshl X6 B d19_16 (0) rfl ?_
  refine xa X6 B d19_17 rfl rfl ?_
  refine o_gf X6 B H (o_w20 hw) e6 j4 d19_18 fun T7 X7 e7 => ?_
  refine xl X7 B H e7 j1 d19_21 ?_
  obtain ⟨T8, h8, L8, X8, e8, N8, Kq8, V8, st8⟩ := o_cpB X7 hx hZ hown (o_h hw 120 rfl) (o_w103 hw) (o_w101 hw) (o_w102 hw) e7 j1 j0 (sp' := 0) (dp' := 0) (nn' := 62) (by decide) (by decide) (by decide) (by decide) (by decide) (by decide) (by decide) (by decide) N4 (by omega) (g := (mkF m 22 #[.val (.ref a_1), .val (.ref a_2), .val (.int 0), .val (.int 0)] [(.int 62), (.int 0), (.ref a_2), (.int 0), (.ref ob0)])) rfl (by rw [hml]; rfl) rfl (hb hby d19_22) (by decide) (W := 0) (by show 2 * 0 + _ ≤ _; exact Nat.le_of_eq rfl) (by decide)
  have z9 := Kq8.1
  have K8 := K0.trans Kq8 (allS (Or.inl o_m0) all0)
  refine o_go st8 ?_
  refine xg X8 B 25 43 rfl d19_25 (by decide) ?_
  exact o_retV X8 B hret d19_43 (by decide) e8 ⟨rfl, N8, K8, V8⟩
theorem d17_0 : decode c17' 0 = .ok (.aload_n 0, 1) := by decide +kernel
theorem d17_1 : decode c17' 1 = .ok (.aload_n 2, 1) := by decide +kernel
theorem d17_2 : decode c17' 2 = .ok (.invokevirtual 397, 3) := by decide +kernel
theorem d17_5 : decode c17' 5 = .ok (.aload_n 2, 1) := by decide +kernel
theorem d17_6 : decode c17' 6 = .ok (.aload_n 0, 1) := by decide +kernel
theorem d17_7 : decode c17' 7 = .ok (.getfield 15, 3) := by decide +kernel
theorem d17_10 : decode c17' 10 = .ok (.iload_n 1, 1) := by decide +kernel
theorem d17_11 : decode c17' 11 = .ok (.aload_n 0, 1) := by decide +kernel
theorem d17_12 : decode c17' 12 = .ok (.getfield 22, 3) := by decide +kernel
theorem d17_15 : decode c17' 15 = .ok (.invokevirtual 399, 3) := by decide +kernel
theorem d17_18 : decode c17' 18 = .ok (.return_, 1) := by decide +kernel
theorem o_rm17_s1 (hw : o_T Z a0) (Z0 : n0 ≤ h0.size) (a_1 a_3 ob0 ob1 : Addr) (fa_ob0 fa_ob1 : Nat → Int32) (j0 : o_AV Z h0 ob0 .byte (62 : Int32) (o_by fa_ob0)) (j1 : o_AV Z h0 ob1 .byte (62 : Int32) (o_by fa_ob1)) (j2 : o_E12 Z h0 a_1) (j3 : o_E0 Z h0 a_3) (j4 : o_F9 Z h0 a_1 (.int 0)) (j5 : o_F8 Z h0 a_1 (.ref ob0)) (j6 : o_F1 Z h0 a_3 (.int 0)) (j7 : o_F2 Z h0 a_3 (.ref ob1)) (j8 : o_G Z h0) (hd_a_1_ob0 : o_df a_1 ob0) (hd_a_3_ob0 : o_df a_3 ob0) (hd_ob0_ob1 : o_df ob0 ob1) (gw_ob0 : n0 ≤ ob0) :
    M17' l Z (o_rm 2 0 0 55) #[(.ref a_1), (.int 0), (.ref a_3)] h0 (fun v h L => v = none ∧ Fr n0 L ∧ Keep h0 h [ob0] ∧ o_AV Z h ob0 .byte (62 : Int32) (o_by (o_cpi fa_ob1 0 fa_ob0 0 62))) := by
  refine o_start (plainFor_of_name o_pn3) (L0 := #[.val (.ref a_1), .val (.int 0), .val (.ref a_3)]) (fun _ => rfl) fun p e s m below meth c s₁ hx hby hml hown hnm hret hZ X0 e0 B H => ?_
  have N0 := Fr.nil n0
  have z0 : n0 ≤ h0.size := Z0
  have z1 := o_lt j0.lt
  have z2 := o_lt j1.lt
  have z3 := o_lt j2.lt
  have z4 := o_lt j3.lt
  have K0 : Keep h0 h0 [ob0] := Keep.refl h0 _
  refine xa X0 B d17_0 rfl rfl ?_
  refine xa X0 B d17_1 rfl rfl ?_
  refine o_cpr X0 B H e0 (o_rm18_s1 (n0 := n0) hw (by omega) a_1 a_3  j3 j4 j6 j8) (o_h hw 109 rfl) (o_w110 hw) (o_w41 hw) (o_h hw 113 rfl) (o_h hw 112 rfl) (o_w111 hw) j2 rfl (lenOf o_pd19 rfl) rfl rfl (W := 0) rfl d17_2 (by decide) ?_
  rintro _ T5 L5 X5 ⟨rfl, N5q, e5⟩
  have N5 := Fr.app N0 N5q
  refine xa X5 B d17_5 rfl rfl ?_
  refine xa X5 B d17_6 rfl rfl ?_
  refine o_gf X5 B H (o_w45 hw) e5 j5 d17_7 fun T6 X6 e6 => ?_
  refine xi X6 B d17_10 rfl ?_
  refine xa X6 B d17_11 rfl rfl ?_
  refine o_gf X6 B H (o_w47 hw) e6 j4 d17_12 fun T7 X7 e7 => ?_
  refine o_cvi X7 B H e7 (o_rm19_s1 (n0 := n0) hw (by omega) a_3 ob0 ob1 fa_ob0 fa_ob1 j0 j1 j3 j6 j7 j8 hd_a_3_ob0 hd_ob0_ob1 (by omega)) (o_w115 hw) (o_w117 hw) (o_w2 hw) (o_h hw 119 rfl) (o_w116 hw) (o_w118 hw) (o_w118 hw) rfl j3 rfl (lenOf o_pd20 rfl) rfl rfl (W := 0) rfl d17_15 (by decide) ?_
  rintro _ T8 L8 X8 ⟨rfl, N8q, K8q, f9⟩
  have N8 := Fr.app N5 N8q
  have z10 := K8q.1
  have K8 := K0.trans K8q (allS (Or.inl o_m0) all0)
  have z11 := o_lt f9.lt
  exact o_retV X8 B hret d17_18 (by decide) rfl ⟨rfl, N8, K8, f9⟩
theorem d8_0 : decode c8' 0 = .ok (.aload_n 1, 1) := by decide +kernel
theorem d8_1 : decode c8' 1 = .ok (.ifnonnull 8, 3) := by decide +kernel
theorem d8_9 : decode c8' 9 = .ok (.aload_n 1, 1) := by decide +kernel
theorem d8_10 : decode c8' 10 = .ok (.invokevirtual 32, 3) := by decide +kernel
theorem d8_13 : decode c8' 13 = .ok (.istore_n 2, 1) := by decide +kernel
theorem d8_14 : decode c8' 14 = .ok (.aload_n 0, 1) := by decide +kernel
theorem d8_15 : decode c8' 15 = .ok (.aload_n 0, 1) := by decide +kernel
theorem d8_16 : decode c8' 16 = .ok (.getfield 79, 3) := by decide +kernel
theorem d8_19 : decode c8' 19 = .ok (.iload_n 2, 1) := by decide +kernel
theorem d8_20 : decode c8' 20 = .ok (.iadd, 1) := by decide +kernel
theorem d8_21 : decode c8' 21 = .ok (.invokevirtual 100, 3) := by decide +kernel
theorem d8_24 : decode c8' 24 = .ok (.aload_n 0, 1) := by decide +kernel
theorem d8_25 : decode c8' 25 = .ok (.aload_n 0, 1) := by decide +kernel
theorem d8_26 : decode c8' 26 = .ok (.getfield 79, 3) := by decide +kernel
theorem d8_29 : decode c8' 29 = .ok (.aload_n 1, 1) := by decide +kernel
theorem d8_30 : decode c8' 30 = .ok (.invokevirtual 208, 3) := by decide +kernel
theorem d8_33 : decode c8' 33 = .ok (.aload_n 0, 1) := by decide +kernel
theorem d8_34 : decode c8' 34 = .ok (.dup, 1) := by decide +kernel
theorem d8_35 : decode c8' 35 = .ok (.getfield 79, 3) := by decide +kernel
theorem d8_38 : decode c8' 38 = .ok (.iload_n 2, 1) := by decide +kernel
theorem d8_39 : decode c8' 39 = .ok (.iadd, 1) := by decide +kernel
theorem d8_40 : decode c8' 40 = .ok (.putfield 79, 3) := by decide +kernel
theorem d8_43 : decode c8' 43 = .ok (.aload_n 0, 1) := by decide +kernel
theorem d8_44 : decode c8' 44 = .ok (.areturn, 1) := by decide +kernel
theorem o_rm8_s1 (hw : o_T Z a0) (Z0 : n0 ≤ h0.size) (a_1 a_2 ob0 ob1 : Addr) (fa_ob0 fa_ob1 : Nat → Int32) (u_0 : Value) (j0 : o_AV Z h0 ob0 .byte (16 : Int32) (o_by fa_ob0)) (j1 : o_AV Z h0 ob1 .byte (62 : Int32) (o_by fa_ob1)) (j2 : o_E12 Z h0 a_1) (j3 : o_E0 Z h0 a_2) (j4 : o_F9 Z h0 a_1 (.int 0)) (j5 : o_F10 Z h0 a_1 (.int 0)) (j6 : o_F11 Z h0 a_1 u_0) (j7 : o_F8 Z h0 a_1 (.ref ob0)) (j8 : o_F1 Z h0 a_2 (.int 0)) (j9 : o_F2 Z h0 a_2 (.ref ob1)) (j10 : o_G Z h0) (hd_a_1_a_2 : o_df a_1 a_2) (hd_a_1_ob0 : o_df a_1 ob0) (hd_a_1_ob1 : o_df a_1 ob1) (gw_a_1 : n0 ≤ a_1) :
    M8' l Z (o_rm 4 1 62 69) #[(.ref a_1), (.ref a_2)] h0 (fun v h L => ∃ (x_0 : Addr), v = some (.ref a_1) ∧ Fr n0 L ∧ Keep h0 h [a_1] ∧ o_E12 Z h a_1 ∧ o_F9 Z h a_1 (.int 0) ∧ o_F10 Z h a_1 (.int 62) ∧ o_F11 Z h a_1 u_0 ∧ o_F8 Z h a_1 (.ref x_0) ∧ o_AV Z h x_0 .byte (62 : Int32) (o_by (o_cpi fa_ob1 0 (o_cpi fa_ob0 0 (fun _ => 0) 0 16) 0 62)) ∧ (h0.size ≤ x_0)) := by
  refine o_start (plainFor_of_name o_pn3) (L0 := #[.val (.ref a_1), .val (.ref a_2), .unset]) (fun _ => rfl) fun p e s m below meth c s₁ hx hby hml hown hnm hret hZ X0 e0 B H => ?_
  have N0 := Fr.nil n0
  have z0 : n0 ≤ h0.size := Z0
  have z1 := o_lt j0.lt
  have z2 := o_lt j1.lt
  have z3 := o_lt j2.lt
  have z4 := o_lt j3.lt
  have K0 : Keep h0 h0 [a_1] := Keep.refl h0 _
  refine xa X0 B d8_0 rfl rfl ?_
  refine xN X0 B 1 9 rfl d8_1 (by decide) ?_
  refine xa X0 B d8_9 rfl rfl ?_
  refine o_cvi X0 B H e0 (o_rm9_s1 (n0 := n0) hw (by omega) a_2 ob1 fa_ob1 j1 j3 j8 j9 j10) (o_w60 hw) (o_w62 hw) (o_w2 hw) (o_h hw 64 rfl) (o_w61 hw) (o_w63 hw) (o_w63 hw) rfl j3 rfl (lenOf o_pd15 rfl) rfl rfl (W := 0) rfl d8_10 (by decide) ?_
  rintro _ T5 L5 X5 ⟨rfl, N5q, e5⟩
  have N5 := Fr.app N0 N5q
  refine xs X5 B d8_13 (l' := #[.val (.ref a_1), .val (.ref a_2), .val (.int 62)]) rfl ?_
  refine xa X5 B d8_14 rfl rfl ?_
  refine xa X5 B d8_15 rfl rfl ?_
  refine o_gf X5 B H (o_w71 hw) e5 j5 d8_16 fun T6 X6 e6 => ?_
  refine xi X6 B d8_19 rfl ?_
  refine xadd X6 B d8_20 (62) rfl ?_
  refine o_cpr X6 B H e6 (o_rm11_s1 (n0 := n0) hw (by omega) a_1 ob0 fa_ob0 (.int 0) u_0 j0 j2 j4 j5 j6 j7 hd_a_1_ob0 (by omega)) (o_h hw 73 rfl) (o_w74 hw) (o_w41 hw) (o_h hw 77 rfl) (o_w76 hw) (o_w75 hw) j2 rfl (lenOf o_pd12 rfl) rfl rfl (W := 0) rfl d8_21 (by decide) ?_
  rintro _ T7 L7 X7 ⟨x_8, rfl, N7q, K7q, f9, f10, f11, f12, f13, f14, f15⟩
  have N7 := Fr.app N5 N7q
  have z16 := K7q.1
  have K7 := K0.trans K7q (allS (Or.inl o_m0) all0)
  have z17 := o_lt f9.lt
  have z18 := o_lt f14.lt
  refine xa X7 B d8_24 rfl rfl ?_
  refine xa X7 B d8_25 rfl rfl ?_
  refine o_gf X7 B H (o_w71 hw) rfl f11 d8_26 fun T19 X19 e19 => ?_
  refine xa X19 B d8_29 rfl rfl ?_
  have f20 := (j1.keep K7q (ninS hd_a_1_ob1.sym nin0))
  have f21 := (j3.keep K7q)
  have f22 := (j8.keep K7q (ninS hd_a_1_a_2.sym nin0))
  have f23 := (j9.keep K7q (ninS hd_a_1_a_2.sym nin0))
  have f24 := (j10.keep K7q (allS (o_exa_plain j2) all0))
  refine o_cpr X19 B H e19 (o_rm17_s1 (n0 := n0) hw (by omega) a_1 a_2 x_8 ob1 (o_cpi fa_ob0 0 (fun _ => 0) 0 16) fa_ob1 f14 f20 f9 f21 f10 f13 f22 f23 f24 (o_ne (by omega)) (o_ne (by omega)) (o_ne (by omega)) (by omega)) (o_h hw 104 rfl) (o_w105 hw) (o_w41 hw) (o_h hw 108 rfl) (o_h hw 107 rfl) (o_w106 hw) f9 rfl (lenOf o_pd21 rfl) rfl rfl (W := 0) rfl d8_30 (by decide) ?_
  rintro _ T25 L25 X25 ⟨rfl, N25q, K25q, f26⟩
  have N25 := Fr.app N7 N25q
  have z27 := K25q.1
  have K25 := K7.trans K25q (allS (Or.inr (by omega)) all0)
  have z28 := o_lt f26.lt
  refine xa X25 B d8_33 rfl rfl ?_
  refine xd X25 B d8_34 rfl ?_
  have f29 := (f11.keep K25q (ninS (o_ne (by omega)) nin0))
  refine o_gf X25 B H (o_w71 hw) rfl f29 d8_35 fun T30 X30 e30 => ?_
  refine xi X30 B d8_38 rfl ?_
  refine xadd X30 B d8_39 (62) rfl ?_
  have f31 := (f9.keep K25q)
  obtain ⟨T32, h32, X32, e32, W32, st32⟩ := putF X30 hx hZ hown (host := "") (Or.inl (o_w71 hw)) Via.refl e30 f29 f31 (Or.inl (o_w72 hw)) (o_w32 hw) (ty := .int) (by decide) rfl rfl (g := (mkF m 40 #[.val (.ref a_1), .val (.ref a_2), .val (.int 62)] [(.int 62), (.ref a_1)])) rfl rfl (hb hby d8_40)
  have z33 := W32.size
  have K32 := K25.wr W32 (Or.inl o_m0)
  have N32 := Fr.snoc X32 N25 (by omega : n0 ≤ a_1)
  have Fw32 : o_F10 Z h32 a_1 (.int 62) := Fld.same W32 f29
  refine o_go st32 ?_
  refine xa X32 B d8_43 rfl rfl ?_
  have f35 := (f31.wr W32)
  have f36 := ((f10.keep K25q (ninS (o_ne (by omega)) nin0)).other W32 (Or.inr (slot_ne (Or.inl (o_w48 hw)) (Or.inl (o_w72 hw)) (by decide) (t := .byte) (t' := .int) (by decide) (by decide))))
  have f37 := ((f12.keep K25q (ninS (o_ne (by omega)) nin0)).other W32 (Or.inr (slot_ne (Or.inl (o_w269 hw)) (Or.inl (o_w72 hw)) (by decide) (t := .boolean) (t' := .int) (by decide) (by decide))))
  have f38 := ((f13.keep K25q (ninS (o_ne (by omega)) nin0)).other W32 (Or.inr (slot_ne (Or.inl (o_w46 hw)) (Or.inl (o_w72 hw)) (by decide) (t := (.array .byte)) (t' := .int) (by decide) (by decide))))
  have f39 := (f26.other W32 (o_ne (by omega)))
  exact o_retA X32 B hret rfl rfl rfl d8_44 (by decide) e32 ⟨x_8, rfl, N32, K32, f35, f36, Fw32, f37, f38, f39, (by omega)⟩
theorem d7_0 : decode c7' 0 = .ok (.aload_n 0, 1) := by decide +kernel
theorem d7_1 : decode c7' 1 = .ok (.aload_n 1, 1) := by decide +kernel
theorem d7_2 : decode c7' 2 = .ok (.invokespecial 29, 3) := by decide +kernel
theorem d7_5 : decode c7' 5 = .ok (.pop, 1) := by decide +kernel
theorem d7_6 : decode c7' 6 = .ok (.aload_n 0, 1) := by decide +kernel
theorem d7_7 : decode c7' 7 = .ok (.areturn, 1) := by decide +kernel
theorem o_rm7_s1 (hw : o_T Z a0) (Z0 : n0 ≤ h0.size) (a_1 a_2 ob0 ob1 : Addr) (fa_ob0 fa_ob1 : Nat → Int32) (u_0 : Value) (j0 : o_AV Z h0 ob0 .byte (16 : Int32) (o_by fa_ob0)) (j1 : o_AV Z h0 ob1 .byte (62 : Int32) (o_by fa_ob1)) (j2 : o_E12 Z h0 a_1) (j3 : o_E0 Z h0 a_2) (j4 : o_F9 Z h0 a_1 (.int 0)) (j5 : o_F10 Z h0 a_1 (.int 0)) (j6 : o_F11 Z h0 a_1 u_0) (j7 : o_F8 Z h0 a_1 (.ref ob0)) (j8 : o_F1 Z h0 a_2 (.int 0)) (j9 : o_F2 Z h0 a_2 (.ref ob1)) (j10 : o_G Z h0) (hd_a_1_a_2 : o_df a_1 a_2) (hd_a_1_ob0 : o_df a_1 ob0) (hd_a_1_ob1 : o_df a_1 ob1) (gw_a_1 : n0 ≤ a_1) :
    M7' l Z (o_rm 5 1 62 83) #[(.ref a_1), (.ref a_2)] h0 (fun v h L => ∃ (x_0 : Addr), v = some (.ref a_1) ∧ Fr n0 L ∧ Keep h0 h [a_1] ∧ o_E12 Z h a_1 ∧ o_F9 Z h a_1 (.int 0) ∧ o_F10 Z h a_1 (.int 62) ∧ o_F11 Z h a_1 u_0 ∧ o_F8 Z h a_1 (.ref x_0) ∧ o_AV Z h x_0 .byte (62 : Int32) (o_by (o_cpi fa_ob1 0 (o_cpi fa_ob0 0 (fun _ => 0) 0 16) 0 62)) ∧ (h0.size ≤ x_0)) := by
  refine o_start (plainFor_of_name o_pn4) (L0 := #[.val (.ref a_1), .val (.ref a_2)]) (fun _ => rfl) fun p e s m below meth c s₁ hx hby hml hown hnm hret hZ X0 e0 B H => ?_
  have N0 := Fr.nil n0
  have z0 : n0 ≤ h0.size := Z0
  have z1 := o_lt j0.lt
  have z2 := o_lt j1.lt
  have z3 := o_lt j2.lt
  have z4 := o_lt j3.lt
  have K0 : Keep h0 h0 [a_1] := Keep.refl h0 _
  refine xa X0 B d7_0 rfl rfl ?_
  refine xa X0 B d7_1 rfl rfl ?_
  refine o_csu X0 B H e0 (o_rm8_s1 (n0 := n0) hw (by omega) a_1 a_2 ob0 ob1 fa_ob0 fa_ob1 u_0 j0 j1 j2 j3 j4 j5 j6 j7 j8 j9 j10 hd_a_1_a_2 hd_a_1_ob0 hd_a_1_ob1 (by omega)) (o_h hw 55 rfl) (o_h hw 56 rfl) (o_w41 hw) (o_h hw 59 rfl) (o_w58 hw) (o_w76 hw) rfl (o_w57 hw) j2 (by decide) rfl (lenOf o_pd22 rfl) rfl rfl (W := 0) rfl d7_2 (by decide) ?_
  rintro _ T5 L5 X5 ⟨x_6, rfl, N5q, K5q, f7, f8, f9, f10, f11, f12, f13⟩
  have N5 := Fr.app N0 N5q
  have z14 := K5q.1
  have K5 := K0.trans K5q (allS (Or.inl o_m0) all0)
  have z15 := o_lt f7.lt
  have z16 := o_lt f12.lt
  refine xp X5 B d7_5 rfl ?_
  refine xa X5 B d7_6 rfl rfl ?_
  exact o_retA X5 B hret rfl rfl rfl d7_7 (by decide) rfl ⟨x_6, rfl, N5, K5, f7, f8, f9, f10, f11, f12, (by omega)⟩
theorem o_rm9_s2 (hw : o_T Z a0) (Z0 : n0 ≤ h0.size) (a_1 ob0 : Addr) (fa_ob0 : Nat → Int32) (j0 : o_AV Z h0 ob0 .byte (0 : Int32) (o_by fa_ob0)) (j1 : o_E0 Z h0 a_1) (j2 : o_F1 Z h0 a_1 (.int 0)) (j3 : o_F2 Z h0 a_1 (.ref ob0)) (j4 : o_G Z h0) :
    M9' l Z (o_rm 1 0 0 13) #[(.ref a_1)] h0 (fun v h L => v = some (.int 0) ∧ Fr n0 L ∧ h = h0) := by
  refine o_start (plainFor_of_name o_pn2) (L0 := #[.val (.ref a_1)]) (fun _ => rfl) fun p e s m below meth c s₁ hx hby hml hown hnm hret hZ X0 e0 B H => ?_
  have N0 := Fr.nil n0
  have z0 : n0 ≤ h0.size := Z0
  have z1 := o_lt j0.lt
  have z2 := o_lt j1.lt
  refine xa X0 B d9_0 rfl rfl ?_
  refine o_gf X0 B H (o_w20 hw) e0 j3 d9_1 fun T3 X3 e3 => ?_
  refine xl X3 B H e3 j0 d9_4 ?_
  refine xa X3 B d9_5 rfl rfl ?_
  refine o_cvi X3 B H e3 (o_rm10_s1 (n0 := n0) hw (by omega) a_1  j2 j4) (o_w65 hw) (o_w67 hw) (o_w2 hw) (o_w69 hw) (o_w66 hw) (o_w68 hw) (o_w68 hw) rfl j1 rfl (lenOf o_pd14 rfl) rfl rfl (W := 1) rfl d9_6 (by decide) ?_
  rintro _ T4 L4 X4 ⟨rfl, N4q, e4⟩
  have N4 := Fr.app N0 N4q
  refine xshr X4 B d9_9 (0) rfl ?_
  exact o_retI X4 B hret (Or.inl rfl) rfl d9_10 (by decide) e4 ⟨rfl, N4, rfl⟩
theorem o_rm11_s2 (hw : o_T Z a0) (Z0 : n0 ≤ h0.size) (a_1 ob0 : Addr) (fa_ob0 : Nat → Int32) (j0 : o_AV Z h0 ob0 .byte (62 : Int32) (o_by fa_ob0)) (j1 : o_F9 Z h0 a_1 (.int 0)) (j2 : o_F8 Z h0 a_1 (.ref ob0)) :
    M11' l Z (o_rm 0 0 0 0) #[(.ref a_1), (.int 62)] h0 (fun v h L => v = none ∧ Fr n0 L ∧ h = h0) := by
  refine o_start (plainFor_of_name o_pn3) (L0 := #[.val (.ref a_1), .val (.int 62), .unset]) (fun _ => rfl) fun p e s m below meth c s₁ hx hby hml hown hnm hret hZ X0 e0 B H => ?_
  have N0 := Fr.nil n0
  have z0 : n0 ≤ h0.size := Z0
  have z1 := o_lt j0.lt
  have z2 := o_lt j1.lt
  refine xa X0 B d11_0 rfl rfl ?_
  refine o_gf X0 B H (o_w45 hw) e0 j2 d11_1 fun T3 X3 e3 => ?_
  refine xl X3 B H e3 j0 d11_4 ?_
  refine xa X3 B d11_5 rfl rfl ?_
  refine o_gf X3 B H (o_w47 hw) e3 j1 d11_6 fun T4 X4 e4 => ?_
  refine xshr X4 B d11_9 (62) rfl ?_
  refine xs X4 B d11_10 (l' := #[.val (.ref a_1), .val (.int 62), .val (.int 62)]) rfl ?_
  refine xi X4 B d11_11 rfl ?_
  refine xi X4 B d11_12 rfl ?_
  refine xsub X4 B d11_13 (0) rfl ?_
  have hc5 : ¬ (0 < (0 : Int32)) := by decide
  refine xy X4 B 14 38 rfl d11_14 (XT.i0_le_t hc5) (by decide) ?_
  exact o_retV X4 B hret d11_38 (by decide) e4 ⟨rfl, N0, rfl⟩
theorem o_rm19_s2 (hw : o_T Z a0) (Z0 : n0 ≤ h0.size) (a_1 a_2 ob0 : Addr) (fa_a_2 fa_ob0 : Nat → Int32) (j0 : o_AV Z h0 a_2 .byte (62 : Int32) (o_by fa_a_2)) (j1 : o_AV Z h0 ob0 .byte (0 : Int32) (o_by fa_ob0)) (j2 : o_E0 Z h0 a_1) (j3 : o_F1 Z h0 a_1 (.int 0)) (j4 : o_F2 Z h0 a_1 (.ref ob0)) (j5 : o_G Z h0) (hd_a_1_a_2 : o_df a_1 a_2) (hd_a_2_ob0 : o_df a_2 ob0) (gw_a_2 : n0 ≤ a_2) :
    M19' l Z (o_rm 1 0 0 40) #[(.ref a_1), (.ref a_2), (.int 62), (.int 0)] h0 (fun v h L => v = none ∧ Fr n0 L ∧ Keep h0 h [a_2] ∧ o_AV Z h a_2 .byte (62 : Int32) (o_by (o_cpi fa_ob0 0 fa_a_2 62 0))) := by
  refine o_start (plainFor_of_name o_pn2) (L0 := #[.val (.ref a_1), .val (.ref a_2), .val (.int 62), .val (.int 0)]) (fun _ => rfl) fun p e s m below meth c s₁ hx hby hml hown hnm hret hZ X0 e0 B H => ?_
  have N0 := Fr.nil n0
  have z0 : n0 ≤ h0.size := Z0
  have z1 := o_lt j0.lt
  have z2 := o_lt j1.lt
  have z3 := o_lt j2.lt
  have K0 : Keep h0 h0 [a_2] := Keep.refl h0 _
  refine xa X0 B d19_0 rfl rfl ?_
  refine o_cvi X0 B H e0 (o_rm10_s1 (n0 := n0) hw (by omega) a_1  j3 j5) (o_w65 hw) (o_w67 hw) (o_w2 hw) (o_w69 hw) (o_w66 hw) (o_w68 hw) (o_w68 hw) rfl j2 rfl (lenOf o_pd14 rfl) rfl rfl (W := 0) rfl d19_1 (by decide) ?_
  rintro _ T4 L4 X4 ⟨rfl, N4q, e4⟩
  have N4 := Fr.app N0 N4q
  refine xi X4 B d19_4 rfl ?_
  have hc5 : (0 : Int32) = (0 : Int32) := by decide
  refine xm X4 B d19_5 (XT.ii_ne_f hc5) ?_
  refine xa X4 B d19_8 rfl rfl ?_
  refine o_gf X4 B H (o_w20 hw) e4 j4 d19_9 fun T6 X6 e6 => ?_
  refine xc X6 B d19_12 0 rfl ?_
  refine xa X6 B d19_13 rfl rfl ?_
  refine xi X6 B d19_14 rfl ?_
  refine xi X6 B d19_15 rfl ?_
  refine xshl X6 B d19_16 (62) rfl ?_
  refine xa X6 B d19_17 rfl rfl ?_
  refine o_gf X6 B H (o_w20 hw) e6 j4 d19_18 fun T7 X7 e7 => ?_
  refine xl X7 B H e7 j1 d19_21 ?_
  obtain ⟨T8, h8, L8, X8, e8, N8, Kq8, V8, st8⟩ := o_cpB X7 hx hZ hown (o_h hw 120 rfl) (o_w103 hw) (o_w101 hw) (o_w102 hw) e7 j1 j0 (sp' := 0) (dp' := 62) (nn' := 0) (by decide) (by decide) (by decide) (by decide) (by decide) (by decide) (by decide) (by decide) N4 (by omega) (g := (mkF m 22 #[.val (.ref a_1), .val (.ref a_2), .val (.int 62), .val (.int 0)] [(.int 0), (.int 62), (.ref a_2), (.int 0), (.ref ob0)])) rfl (by rw [hml]; rfl) rfl (hb hby d19_22) (by decide) (W := 0) (by show 2 * 0 + _ ≤ _; exact Nat.le_of_eq rfl) (by decide)
  have z9 := Kq8.1
  have K8 := K0.trans Kq8 (allS (Or.inl o_m0) all0)
  refine o_go st8 ?_
  refine xg X8 B 25 43 rfl d19_25 (by decide) ?_
  exact o_retV X8 B hret d19_43 (by decide) e8 ⟨rfl, N8, K8, V8⟩
theorem o_rm17_s2 (hw : o_T Z a0) (Z0 : n0 ≤ h0.size) (a_1 a_3 ob0 ob1 : Addr) (fa_ob0 fa_ob1 : Nat → Int32) (j0 : o_AV Z h0 ob0 .byte (62 : Int32) (o_by fa_ob0)) (j1 : o_AV Z h0 ob1 .byte (0 : Int32) (o_by fa_ob1)) (j2 : o_E12 Z h0 a_1) (j3 : o_E0 Z h0 a_3) (j4 : o_F9 Z h0 a_1 (.int 0)) (j5 : o_F8 Z h0 a_1 (.ref ob0)) (j6 : o_F1 Z h0 a_3 (.int 0)) (j7 : o_F2 Z h0 a_3 (.ref ob1)) (j8 : o_G Z h0) (hd_a_1_ob0 : o_df a_1 ob0) (hd_a_3_ob0 : o_df a_3 ob0) (hd_ob0_ob1 : o_df ob0 ob1) (gw_ob0 : n0 ≤ ob0) :
    M17' l Z (o_rm 2 0 0 55) #[(.ref a_1), (.int 62), (.ref a_3)] h0 (fun v h L => v = none ∧ Fr n0 L ∧ Keep h0 h [ob0] ∧ o_AV Z h ob0 .byte (62 : Int32) (o_by (o_cpi fa_ob1 0 fa_ob0 62 0))) := by
  refine o_start (plainFor_of_name o_pn3) (L0 := #[.val (.ref a_1), .val (.int 62), .val (.ref a_3)]) (fun _ => rfl) fun p e s m below meth c s₁ hx hby hml hown hnm hret hZ X0 e0 B H => ?_
  have N0 := Fr.nil n0
  have z0 : n0 ≤ h0.size := Z0
  have z1 := o_lt j0.lt
  have z2 := o_lt j1.lt
  have z3 := o_lt j2.lt
  have z4 := o_lt j3.lt
  have K0 : Keep h0 h0 [ob0] := Keep.refl h0 _
  refine xa X0 B d17_0 rfl rfl ?_
  refine xa X0 B d17_1 rfl rfl ?_
  refine o_cpr X0 B H e0 (o_rm18_s1 (n0 := n0) hw (by omega) a_1 a_3  j3 j4 j6 j8) (o_h hw 109 rfl) (o_w110 hw) (o_w41 hw) (o_h hw 113 rfl) (o_h hw 112 rfl) (o_w111 hw) j2 rfl (lenOf o_pd19 rfl) rfl rfl (W := 0) rfl d17_2 (by decide) ?_
  rintro _ T5 L5 X5 ⟨rfl, N5q, e5⟩
  have N5 := Fr.app N0 N5q
  refine xa X5 B d17_5 rfl rfl ?_
  refine xa X5 B d17_6 rfl rfl ?_
  refine o_gf X5 B H (o_w45 hw) e5 j5 d17_7 fun T6 X6 e6 => ?_
  refine xi X6 B d17_10 rfl ?_
  refine xa X6 B d17_11 rfl rfl ?_
  refine o_gf X6 B H (o_w47 hw) e6 j4 d17_12 fun T7 X7 e7 => ?_
  refine o_cvi X7 B H e7 (o_rm19_s2 (n0 := n0) hw (by omega) a_3 ob0 ob1 fa_ob0 fa_ob1 j0 j1 j3 j6 j7 j8 hd_a_3_ob0 hd_ob0_ob1 (by omega)) (o_w115 hw) (o_w117 hw) (o_w2 hw) (o_h hw 119 rfl) (o_w116 hw) (o_w118 hw) (o_w118 hw) rfl j3 rfl (lenOf o_pd20 rfl) rfl rfl (W := 0) rfl d17_15 (by decide) ?_
  rintro _ T8 L8 X8 ⟨rfl, N8q, K8q, f9⟩
  have N8 := Fr.app N5 N8q
  have z10 := K8q.1
  have K8 := K0.trans K8q (allS (Or.inl o_m0) all0)
  have z11 := o_lt f9.lt
  exact o_retV X8 B hret d17_18 (by decide) rfl ⟨rfl, N8, K8, f9⟩
theorem o_rm8_s2 (hw : o_T Z a0) (Z0 : n0 ≤ h0.size) (a_1 a_2 ob0 ob1 : Addr) (fa_ob0 fa_ob1 : Nat → Int32) (u_0 : Value) (j0 : o_AV Z h0 ob0 .byte (62 : Int32) (o_by fa_ob0)) (j1 : o_AV Z h0 ob1 .byte (0 : Int32) (o_by fa_ob1)) (j2 : o_E12 Z h0 a_1) (j3 : o_E0 Z h0 a_2) (j4 : o_F9 Z h0 a_1 (.int 0)) (j5 : o_F10 Z h0 a_1 (.int 62)) (j6 : o_F11 Z h0 a_1 u_0) (j7 : o_F8 Z h0 a_1 (.ref ob0)) (j8 : o_F1 Z h0 a_2 (.int 0)) (j9 : o_F2 Z h0 a_2 (.ref ob1)) (j10 : o_G Z h0) (hd_a_1_a_2 : o_df a_1 a_2) (hd_a_1_ob0 : o_df a_1 ob0) (hd_a_1_ob1 : o_df a_1 ob1) (hd_a_2_ob0 : o_df a_2 ob0) (hd_ob0_ob1 : o_df ob0 ob1) (gw_ob0 : n0 ≤ ob0) (gw_a_1 : n0 ≤ a_1) :
    M8' l Z (o_rm 3 0 0 69) #[(.ref a_1), (.ref a_2)] h0 (fun v h L => v = some (.ref a_1) ∧ Fr n0 L ∧ Keep h0 h [ob0, a_1] ∧ o_AV Z h ob0 .byte (62 : Int32) (o_by (o_cpi fa_ob1 0 fa_ob0 62 0)) ∧ o_E12 Z h a_1 ∧ o_F9 Z h a_1 (.int 0) ∧ o_F10 Z h a_1 (.int 62) ∧ o_F11 Z h a_1 u_0 ∧ o_F8 Z h a_1 (.ref ob0)) := by
  refine o_start (plainFor_of_name o_pn3) (L0 := #[.val (.ref a_1), .val (.ref a_2), .unset]) (fun _ => rfl) fun p e s m below meth c s₁ hx hby hml hown hnm hret hZ X0 e0 B H => ?_
  have N0 := Fr.nil n0
  have z0 : n0 ≤ h0.size := Z0
  have z1 := o_lt j0.lt
  have z2 := o_lt j1.lt
  have z3 := o_lt j2.lt
  have z4 := o_lt j3.lt
  have K0 : Keep h0 h0 [ob0, a_1] := Keep.refl h0 _
  refine xa X0 B d8_0 rfl rfl ?_
  refine xN X0 B 1 9 rfl d8_1 (by decide) ?_
  refine xa X0 B d8_9 rfl rfl ?_
  refine o_cvi X0 B H e0 (o_rm9_s2 (n0 := n0) hw (by omega) a_2 ob1 fa_ob1 j1 j3 j8 j9 j10) (o_w60 hw) (o_w62 hw) (o_w2 hw) (o_h hw 64 rfl) (o_w61 hw) (o_w63 hw) (o_w63 hw) rfl j3 rfl (lenOf o_pd15 rfl) rfl rfl (W := 0) rfl d8_10 (by decide) ?_
  rintro _ T5 L5 X5 ⟨rfl, N5q, e5⟩
  have N5 := Fr.app N0 N5q
  refine xs X5 B d8_13 (l' := #[.val (.ref a_1), .val (.ref a_2), .val (.int 0)]) rfl ?_
  refine xa X5 B d8_14 rfl rfl ?_
  refine xa X5 B d8_15 rfl rfl ?_
  refine o_gf X5 B H (o_w71 hw) e5 j5 d8_16 fun T6 X6 e6 => ?_
  refine xi X6 B d8_19 rfl ?_
  refine xadd X6 B d8_20 (62) rfl ?_
  refine o_cpr X6 B H e6 (o_rm11_s2 (n0 := n0) hw (by omega) a_1 ob0 fa_ob0 j0 j4 j7) (o_h hw 73 rfl) (o_w74 hw) (o_w41 hw) (o_h hw 77 rfl) (o_w76 hw) (o_w75 hw) j2 rfl (lenOf o_pd12 rfl) rfl rfl (W := 0) rfl d8_21 (by decide) ?_
  rintro _ T7 L7 X7 ⟨rfl, N7q, e7⟩
  have N7 := Fr.app N5 N7q
  refine xa X7 B d8_24 rfl rfl ?_
  refine xa X7 B d8_25 rfl rfl ?_
  refine o_gf X7 B H (o_w71 hw) e7 j5 d8_26 fun T8 X8 e8 => ?_
  refine xa X8 B d8_29 rfl rfl ?_
  refine o_cpr X8 B H e8 (o_rm17_s2 (n0 := n0) hw (by omega) a_1 a_2 ob0 ob1 fa_ob0 fa_ob1 j0 j1 j2 j3 j4 j7 j8 j9 j10 hd_a_1_ob0 hd_a_2_ob0 hd_ob0_ob1 (by omega)) (o_h hw 104 rfl) (o_w105 hw) (o_w41 hw) (o_h hw 108 rfl) (o_h hw 107 rfl) (o_w106 hw) j2 rfl (lenOf o_pd21 rfl) rfl rfl (W := 0) rfl d8_30 (by decide) ?_
  rintro _ T9 L9 X9 ⟨rfl, N9q, K9q, f10⟩
  have N9 := Fr.app N7 N9q
  have z11 := K9q.1
  have K9 := K0.trans K9q (allS (Or.inl o_m0) all0)
  have z12 := o_lt f10.lt
  refine xa X9 B d8_33 rfl rfl ?_
  refine xd X9 B d8_34 rfl ?_
  have f13 := (j5.keep K9q (ninS hd_a_1_ob0 nin0))
  refine o_gf X9 B H (o_w71 hw) rfl f13 d8_35 fun T14 X14 e14 => ?_
  refine xi X14 B d8_38 rfl ?_
  refine xadd X14 B d8_39 (62) rfl ?_
  have f15 := (j2.keep K9q)
  obtain ⟨T16, h16, X16, e16, W16, st16⟩ := putF X14 hx hZ hown (host := "") (Or.inl (o_w71 hw)) Via.refl e14 f13 f15 (Or.inl (o_w72 hw)) (o_w32 hw) (ty := .int) (by decide) rfl rfl (g := (mkF m 40 #[.val (.ref a_1), .val (.ref a_2), .val (.int 0)] [(.int 62), (.ref a_1)])) rfl rfl (hb hby d8_40)
  have z17 := W16.size
  have K16 := K9.wr W16 (Or.inl (List.mem_of_getElem? (i := 1) rfl))
  have N16 := Fr.snoc X16 N9 (by omega : n0 ≤ a_1)
  have Fw16 : o_F10 Z h16 a_1 (.int 62) := Fld.same W16 f13
  refine o_go st16 ?_
  refine xa X16 B d8_43 rfl rfl ?_
  have f19 := (f10.other W16 hd_a_1_ob0.sym)
  have f20 := (f15.wr W16)
  have f21 := ((j4.keep K9q (ninS hd_a_1_ob0 nin0)).other W16 (Or.inr (slot_ne (Or.inl (o_w48 hw)) (Or.inl (o_w72 hw)) (by decide) (t := .byte) (t' := .int) (by decide) (by decide))))
  have f22 := ((j6.keep K9q (ninS hd_a_1_ob0 nin0)).other W16 (Or.inr (slot_ne (Or.inl (o_w269 hw)) (Or.inl (o_w72 hw)) (by decide) (t := .boolean) (t' := .int) (by decide) (by decide))))
  have f23 := ((j7.keep K9q (ninS hd_a_1_ob0 nin0)).other W16 (Or.inr (slot_ne (Or.inl (o_w46 hw)) (Or.inl (o_w72 hw)) (by decide) (t := (.array .byte)) (t' := .int) (by decide) (by decide))))
  exact o_retA X16 B hret rfl rfl rfl d8_44 (by decide) e16 ⟨rfl, N16, K16, f19, f20, f21, Fw16, f22, f23⟩
theorem o_rm7_s2 (hw : o_T Z a0) (Z0 : n0 ≤ h0.size) (a_1 a_2 ob0 ob1 : Addr) (fa_ob0 fa_ob1 : Nat → Int32) (u_0 : Value) (j0 : o_AV Z h0 ob0 .byte (62 : Int32) (o_by fa_ob0)) (j1 : o_AV Z h0 ob1 .byte (0 : Int32) (o_by fa_ob1)) (j2 : o_E12 Z h0 a_1) (j3 : o_E0 Z h0 a_2) (j4 : o_F9 Z h0 a_1 (.int 0)) (j5 : o_F10 Z h0 a_1 (.int 62)) (j6 : o_F11 Z h0 a_1 u_0) (j7 : o_F8 Z h0 a_1 (.ref ob0)) (j8 : o_F1 Z h0 a_2 (.int 0)) (j9 : o_F2 Z h0 a_2 (.ref ob1)) (j10 : o_G Z h0) (hd_a_1_a_2 : o_df a_1 a_2) (hd_a_1_ob0 : o_df a_1 ob0) (hd_a_1_ob1 : o_df a_1 ob1) (hd_a_2_ob0 : o_df a_2 ob0) (hd_ob0_ob1 : o_df ob0 ob1) (gw_ob0 : n0 ≤ ob0) (gw_a_1 : n0 ≤ a_1) :
    M7' l Z (o_rm 4 0 0 83) #[(.ref a_1), (.ref a_2)] h0 (fun v h L => v = some (.ref a_1) ∧ Fr n0 L ∧ Keep h0 h [ob0, a_1] ∧ o_AV Z h ob0 .byte (62 : Int32) (o_by (o_cpi fa_ob1 0 fa_ob0 62 0)) ∧ o_E12 Z h a_1 ∧ o_F9 Z h a_1 (.int 0) ∧ o_F10 Z h a_1 (.int 62) ∧ o_F11 Z h a_1 u_0 ∧ o_F8 Z h a_1 (.ref ob0)) := by
  refine o_start (plainFor_of_name o_pn4) (L0 := #[.val (.ref a_1), .val (.ref a_2)]) (fun _ => rfl) fun p e s m below meth c s₁ hx hby hml hown hnm hret hZ X0 e0 B H => ?_
  have N0 := Fr.nil n0
  have z0 : n0 ≤ h0.size := Z0
  have z1 := o_lt j0.lt
  have z2 := o_lt j1.lt
  have z3 := o_lt j2.lt
  have z4 := o_lt j3.lt
  have K0 : Keep h0 h0 [ob0, a_1] := Keep.refl h0 _
  refine xa X0 B d7_0 rfl rfl ?_
  refine xa X0 B d7_1 rfl rfl ?_
  refine o_csu X0 B H e0 (o_rm8_s2 (n0 := n0) hw (by omega) a_1 a_2 ob0 ob1 fa_ob0 fa_ob1 u_0 j0 j1 j2 j3 j4 j5 j6 j7 j8 j9 j10 hd_a_1_a_2 hd_a_1_ob0 hd_a_1_ob1 hd_a_2_ob0 hd_ob0_ob1 (by omega) (by omega)) (o_h hw 55 rfl) (o_h hw 56 rfl) (o_w41 hw) (o_h hw 59 rfl) (o_w58 hw) (o_w76 hw) rfl (o_w57 hw) j2 (by decide) rfl (lenOf o_pd22 rfl) rfl rfl (W := 0) rfl d7_2 (by decide) ?_
  rintro _ T5 L5 X5 ⟨rfl, N5q, K5q, f6, f7, f8, f9, f10, f11⟩
  have N5 := Fr.app N0 N5q
  have z12 := K5q.1
  have K5 := K0.trans K5q (allS (Or.inl o_m0) (allS (Or.inl (List.mem_of_getElem? (i := 1) rfl)) all0))
  have z13 := o_lt f6.lt
  have z14 := o_lt f7.lt
  refine xp X5 B d7_5 rfl ?_
  refine xa X5 B d7_6 rfl rfl ?_
  exact o_retA X5 B hret rfl rfl rfl d7_7 (by decide) rfl ⟨rfl, N5, K5, f6, f7, f8, f9, f10, f11⟩
theorem o_rm9_s3 (hw : o_T Z a0) (Z0 : n0 ≤ h0.size) (a_1 ob0 : Addr) (fa_ob0 : Nat → Int32) (j0 : o_AV Z h0 ob0 .byte (1 : Int32) (o_by fa_ob0)) (j1 : o_E0 Z h0 a_1) (j2 : o_F1 Z h0 a_1 (.int 0)) (j3 : o_F2 Z h0 a_1 (.ref ob0)) (j4 : o_G Z h0) :
    M9' l Z (o_rm 1 0 0 13) #[(.ref a_1)] h0 (fun v h L => v = some (.int 1) ∧ Fr n0 L ∧ h = h0) := by
  refine o_start (plainFor_of_name o_pn2) (L0 := #[.val (.ref a_1)]) (fun _ => rfl) fun p e s m below meth c s₁ hx hby hml hown hnm hret hZ X0 e0 B H => ?_
  have N0 := Fr.nil n0
  have z0 : n0 ≤ h0.size := Z0
  have z1 := o_lt j0.lt
  have z2 := o_lt j1.lt
  refine xa X0 B d9_0 rfl rfl ?_
  refine o_gf X0 B H (o_w20 hw) e0 j3 d9_1 fun T3 X3 e3 => ?_
  refine xl X3 B H e3 j0 d9_4 ?_
  refine xa X3 B d9_5 rfl rfl ?_
  refine o_cvi X3 B H e3 (o_rm10_s1 (n0 := n0) hw (by omega) a_1  j2 j4) (o_w65 hw) (o_w67 hw) (o_w2 hw) (o_w69 hw) (o_w66 hw) (o_w68 hw) (o_w68 hw) rfl j1 rfl (lenOf o_pd14 rfl) rfl rfl (W := 1) rfl d9_6 (by decide) ?_
  rintro _ T4 L4 X4 ⟨rfl, N4q, e4⟩
  have N4 := Fr.app N0 N4q
  refine xshr X4 B d9_9 (1) rfl ?_
  exact o_retI X4 B hret (Or.inl rfl) rfl d9_10 (by decide) e4 ⟨rfl, N4, rfl⟩
theorem d14_9 : decode c14' 9 = .ok (.iload_n 1, 1) := by decide +kernel
theorem o_rm14_s2 (hw : o_T Z a0) (Z0 : n0 ≤ h0.size) :
    M14' l Z (o_rm 0 0 0 0) #[(.int 1), (.int 64)] h0 (fun v h L => v = some (.int 64) ∧ Fr n0 L ∧ h = h0) := by
  refine o_start (Jvm.Free.JP.mathPlain rfl (by decide +kernel)) (L0 := #[.val (.int 1), .val (.int 64)]) (fun _ => rfl) fun p e s m below meth c s₁ hx hby hml hown hnm hret hZ X0 e0 B H => ?_
  have N0 := Fr.nil n0
  have z0 : n0 ≤ h0.size := Z0
  refine xi X0 B d14_0 rfl ?_
  refine xi X0 B d14_1 rfl ?_
  have hc1 : (1 : Int32) < (64 : Int32) := by decide
  refine xM X0 B 2 9 rfl d14_2 (XT.ii_lt_t hc1) (by decide) ?_
  refine xi X0 B d14_9 rfl ?_
  exact o_retI X0 B hret (Or.inl rfl) rfl d14_10 (by decide) e0 ⟨rfl, N0, rfl⟩
theorem o_rm13_s2 (hw : o_T Z a0) (Z0 : n0 ≤ h0.size) :
    M13' l Z (o_rm 1 0 0 14) #[(.int 62), (.int 1), (.int 64)] h0 (fun v h L => v = some (.int 126) ∧ Fr n0 L ∧ h = h0) := by
  refine o_start (plainFor_of_name o_pn5) (L0 := #[.val (.int 62), .val (.int 1), .val (.int 64), .unset]) (fun _ => rfl) fun p e s m below meth c s₁ hx hby hml hown hnm hret hZ X0 e0 B H => ?_
  have N0 := Fr.nil n0
  have z0 : n0 ≤ h0.size := Z0
  refine xi X0 B d13_0 rfl ?_
  refine xi X0 B d13_1 rfl ?_
  refine xi X0 B d13_2 rfl ?_
  refine o_cst X0 B H e0 (o_rm14_s2 (n0 := n0) hw (by omega)   ) (o_h hw 87 rfl) (o_h hw 88 rfl) (o_w89 hw) (o_h hw 90 rfl) rfl (lenOf o_pd16 rfl) rfl rfl (W := 1) rfl d13_3 (by decide) ?_
  rintro _ T1 L1 X1 ⟨rfl, N1q, e1⟩
  have N1 := Fr.app N0 N1q
  refine xadd X1 B d13_6 (126) rfl ?_
  refine xs X1 B d13_7 (l' := #[.val (.int 62), .val (.int 1), .val (.int 64), .val (.int 126)]) rfl ?_
  refine xc X1 B d13_8 0 rfl ?_
  refine xi X1 B d13_9 rfl ?_
  have hc2 : (0 : Int32) < (126 : Int32) := by decide
  refine xm X1 B d13_10 (XT.ii_ge_f hc2) ?_
  refine xi X1 B d13_13 rfl ?_
  refine o_go (fun _ k => X1.ldcInt hx hown (mvT hZ (o_h hw 91 rfl)) (g := (mkF m 14 #[.val (.int 62), .val (.int 1), .val (.int 64), .val (.int 126)] [(.int 126)])) rfl (hb hby d13_14) _ k) ?_
  show o_Go _ _ _ _ T1 (mkF m 16 #[.val (.int 62), .val (.int 1), .val (.int 64), .val (.int 126)] [(.int 2147483639), (.int 126)])
  have hc3 : ¬ ((2147483639 : Int32) < (126 : Int32)) := by decide
  refine xm X1 B d13_16 (XT.ii_gt_f hc3) ?_
  refine xi X1 B d13_19 rfl ?_
  exact o_retI X1 B hret (Or.inl rfl) rfl d13_20 (by decide) e1 ⟨rfl, N1, rfl⟩
theorem o_rm12_s2 (hw : o_T Z a0) (Z0 : n0 ≤ h0.size) (a_1 ob0 : Addr) (fa_ob0 : Nat → Int32) (j0 : o_AV Z h0 ob0 .byte (62 : Int32) (o_by fa_ob0)) (j1 : o_F9 Z h0 a_1 (.int 0)) (j2 : o_F8 Z h0 a_1 (.ref ob0)) :
    M12' l Z (o_rm 2 0 0 29) #[(.ref a_1), (.int 63)] h0 (fun v h L => v = some (.int 126) ∧ Fr n0 L ∧ h = h0) := by
  refine o_start (plainFor_of_name o_pn3) (L0 := #[.val (.ref a_1), .val (.int 63), .unset, .unset, .unset, .unset]) (fun _ => rfl) fun p e s m below meth c s₁ hx hby hml hown hnm hret hZ X0 e0 B H => ?_
  have N0 := Fr.nil n0
  have z0 : n0 ≤ h0.size := Z0
  have z1 := o_lt j0.lt
  have z2 := o_lt j1.lt
  refine xa X0 B d12_0 rfl rfl ?_
  refine o_gf X0 B H (o_w45 hw) e0 j2 d12_1 fun T3 X3 e3 => ?_
  refine xl X3 B H e3 j0 d12_4 ?_
  refine xs X3 B d12_5 (l' := #[.val (.ref a_1), .val (.int 63), .val (.int 62), .unset, .unset, .unset]) rfl ?_
  refine xi X3 B d12_6 rfl ?_
  refine xa X3 B d12_7 rfl rfl ?_
  refine o_gf X3 B H (o_w47 hw) e3 j1 d12_8 fun T4 X4 e4 => ?_
  refine xshl X4 B d12_11 (63) rfl ?_
  refine xs X4 B d12_12 (l' := #[.val (.ref a_1), .val (.int 63), .val (.int 62), .val (.int 63), .unset, .unset]) rfl ?_
  refine xi X4 B d12_13 rfl ?_
  refine xi X4 B d12_14 rfl ?_
  refine xsub X4 B d12_15 (1) rfl ?_
  refine xS X4 B d12_16 (l' := #[.val (.ref a_1), .val (.int 63), .val (.int 62), .val (.int 63), .val (.int 1), .unset]) rfl ?_
  refine xi X4 B d12_18 rfl ?_
  refine xI X4 B d12_19 rfl ?_
  refine xi X4 B d12_21 rfl ?_
  refine xc X4 B d12_22 2 rfl ?_
  refine xa X4 B d12_23 rfl rfl ?_
  refine o_gf X4 B H (o_w47 hw) e4 j1 d12_24 fun T5 X5 e5 => ?_
  refine xshl X5 B d12_27 (2) rfl ?_
  refine xadd X5 B d12_28 (64) rfl ?_
  refine o_cst X5 B H e5 (o_rm13_s2 (n0 := n0) hw (by omega)   ) (o_h hw 83 rfl) (o_h hw 84 rfl) (o_h hw 85 rfl) (o_h hw 86 rfl) rfl (lenOf o_pd17 rfl) rfl rfl (W := 0) rfl d12_29 (by decide) ?_
  rintro _ T6 L6 X6 ⟨rfl, N6q, e6⟩
  have N6 := Fr.app N0 N6q
  refine xS X6 B d12_32 (l' := #[.val (.ref a_1), .val (.int 63), .val (.int 62), .val (.int 63), .val (.int 1), .val (.int 126)]) rfl ?_
  refine xI X6 B d12_34 rfl ?_
  refine o_go (fun _ k => X6.ldcInt hx hown (mvT hZ (o_h hw 92 rfl)) (g := (mkF m 36 #[.val (.ref a_1), .val (.int 63), .val (.int 62), .val (.int 63), .val (.int 1), .val (.int 126)] [(.int 126)])) rfl (hb hby d12_36) _ k) ?_
  show o_Go _ _ _ _ T6 (mkF m 38 #[.val (.ref a_1), .val (.int 63), .val (.int 62), .val (.int 63), .val (.int 1), .val (.int 126)] [(.int 2147483647), (.int 126)])
  have hc7 : ¬ ((126 : Int32) = (2147483647 : Int32)) := by decide
  refine xM X6 B 38 51 rfl d12_38 (XT.ii_ne_t hc7) (by decide) ?_
  refine xI X6 B d12_51 rfl ?_
  refine xa X6 B d12_53 rfl rfl ?_
  refine o_gf X6 B H (o_w47 hw) e6 j1 d12_54 fun T8 X8 e8 => ?_
  refine xshr X8 B d12_57 (126) rfl ?_
  exact o_retI X8 B hret (Or.inl rfl) rfl d12_58 (by decide) e8 ⟨rfl, N6, rfl⟩
theorem o_rm16_s2 (hw : o_T Z a0) (Z0 : n0 ≤ h0.size) :
    M16' l Z (o_rm 0 0 0 0) #[(.int 62), (.int 126)] h0 (fun v h L => v = some (.int 62) ∧ Fr n0 L ∧ h = h0) := by
  refine o_start (Jvm.Free.JP.mathPlain rfl (by decide +kernel)) (L0 := #[.val (.int 62), .val (.int 126)]) (fun _ => rfl) fun p e s m below meth c s₁ hx hby hml hown hnm hret hZ X0 e0 B H => ?_
  have N0 := Fr.nil n0
  have z0 : n0 ≤ h0.size := Z0
  refine xi X0 B d16_0 rfl ?_
  refine xi X0 B d16_1 rfl ?_
  have hc1 : ¬ ((126 : Int32) < (62 : Int32)) := by decide
  refine xm X0 B d16_2 (XT.ii_gt_f hc1) ?_
  refine xi X0 B d16_5 rfl ?_
  refine xg X0 B 6 10 rfl d16_6 (by decide) ?_
  exact o_retI X0 B hret (Or.inl rfl) rfl d16_10 (by decide) e0 ⟨rfl, N0, rfl⟩
theorem o_rm15_s2 (hw : o_T Z a0) (Z0 : n0 ≤ h0.size) (a_1 : Addr) (fa_a_1 : Nat → Int32) (j0 : o_AV Z h0 a_1 .byte (62 : Int32) (o_by fa_a_1)) :
    M15' l Z (o_rm 1 1 126 40) #[(.ref a_1), (.int 126)] h0 (fun v h L => ∃ (x_0 : Addr), v = some (.ref x_0) ∧ Fr n0 L ∧ Keep h0 h [] ∧ o_AV Z h x_0 .byte (126 : Int32) (o_by (o_cpi fa_a_1 0 (fun _ => 0) 0 62)) ∧ (h0.size ≤ x_0)) := by
  refine o_start (plainFor_of_name o_pn6) (L0 := #[.val (.ref a_1), .val (.int 126), .unset]) (fun _ => rfl) fun p e s m below meth c s₁ hx hby hml hown hnm hret hZ X0 e0 B H => ?_
  have N0 := Fr.nil n0
  have z0 : n0 ≤ h0.size := Z0
  have z1 := o_lt j0.lt
  have K0 : Keep h0 h0 [] := Keep.refl h0 _
  refine xi X0 B d15_0 rfl ?_
  refine xa X0 B d15_1 rfl rfl ?_
  refine xl X0 B H e0 j0 d15_2 ?_
  have hc2 : ¬ ((126 : Int32) = (62 : Int32)) := by decide
  refine xM X0 B 3 14 rfl d15_3 (XT.ii_ne_t hc2) (by decide) ?_
  refine xi X0 B d15_14 rfl ?_
  obtain ⟨T3, h3, k3, X3, e3, E3, A3, st3⟩ := newP X0 hx hZ (hw _ (List.mem_of_getElem? (i := 15) rfl)) e0 (g := (mkF m 15 #[.val (.ref a_1), .val (.int 126), .unset] [(.int 126)])) rfl (hb hby d15_15) rfl (by decide) (cap := 126) (by decide) (by decide) (by decide) (by decide)
  obtain ⟨b3, g3⟩ : ∃ z, z = h0.size := ⟨_, rfl⟩
  rw [← g3] at A3 st3
  have z4 := E3.1
  have lt_b3 := o_lt A3.lt
  have K3 := K0.ext E3
  have V_b3 : o_AV Z h3 b3 .byte (126 : Int32) (o_by (fun _ => 0)) := o_AV.congr (o_AV.new A3 (by decide)) fun i _ => (o_by0 i).symm
  refine o_go st3 ?_
  refine xt X3 B d15_17 rfl (l' := #[.val (.ref a_1), .val (.int 126), .val (.ref b3)]) rfl ?_
  refine xa X3 B d15_18 rfl rfl ?_
  refine xc X3 B d15_19 0 rfl ?_
  refine xa X3 B d15_20 rfl rfl ?_
  refine xc X3 B d15_21 0 rfl ?_
  refine xa X3 B d15_22 rfl rfl ?_
  have f5 := (j0.ext E3)
  refine xl X3 B H e3 f5 d15_23 ?_
  refine xi X3 B d15_24 rfl ?_
  refine o_cst X3 B H e3 (o_rm16_s2 (n0 := n0) hw (by omega)   ) (o_h hw 97 rfl) (o_h hw 98 rfl) (o_w89 hw) (o_h hw 99 rfl) rfl (lenOf o_pd16 rfl) rfl rfl (W := 4) rfl d15_25 (by decide) ?_
  rintro _ T6 L6 X6 ⟨rfl, N6q, e6⟩
  have N6 := Fr.app N0 N6q
  obtain ⟨T7, h7, L7, X7, e7, N7, Kq7, V7, st7⟩ := o_cpB X6 hx hZ hown (o_h hw 100 rfl) (o_w103 hw) (o_w101 hw) (o_w102 hw) e6 f5 V_b3 (sp' := 0) (dp' := 0) (nn' := 62) (by decide) (by decide) (by decide) (by decide) (by decide) (by decide) (by decide) (by decide) N6 (by omega) (g := (mkF m 28 #[.val (.ref a_1), .val (.int 126), .val (.ref b3)] [(.int 62), (.int 0), (.ref b3), (.int 0), (.ref a_1)])) rfl (by rw [hml]; rfl) rfl (hb hby d15_28) (by decide) (W := 0) (by show 2 * 0 + _ ≤ _; exact Nat.le_of_eq rfl) (by decide)
  have z8 := Kq7.1
  have K7 := K3.trans Kq7 (allS (Or.inr (by omega)) all0)
  refine o_go st7 ?_
  refine xa X7 B d15_31 rfl rfl ?_
  exact o_retA X7 B hret rfl rfl rfl d15_32 (by decide) e7 ⟨b3, rfl, N7, K7, V7, (by omega)⟩
theorem o_rm11_s3 (hw : o_T Z a0) (Z0 : n0 ≤ h0.size) (a_1 ob0 : Addr) (fa_ob0 : Nat → Int32) (u_0 u_1 : Value) (j0 : o_AV Z h0 ob0 .byte (62 : Int32) (o_by fa_ob0)) (j1 : o_E12 Z h0 a_1) (j2 : o_F9 Z h0 a_1 (.int 0)) (j3 : o_F10 Z h0 a_1 u_0) (j4 : o_F11 Z h0 a_1 u_1) (j5 : o_F8 Z h0 a_1 (.ref ob0)) (hd_a_1_ob0 : o_df a_1 ob0) (gw_a_1 : n0 ≤ a_1) :
    M11' l Z (o_rm 3 1 126 55) #[(.ref a_1), (.int 63)] h0 (fun v h L => ∃ (x_0 : Addr), v = none ∧ Fr n0 L ∧ Keep h0 h [a_1] ∧ o_E12 Z h a_1 ∧ o_F9 Z h a_1 (.int 0) ∧ o_F10 Z h a_1 u_0 ∧ o_F11 Z h a_1 u_1 ∧ o_F8 Z h a_1 (.ref x_0) ∧ o_AV Z h x_0 .byte (126 : Int32) (o_by (o_cpi fa_ob0 0 (fun _ => 0) 0 62)) ∧ (h0.size ≤ x_0)) := by
  refine o_start (plainFor_of_name o_pn3) (L0 := #[.val (.ref a_1), .val (.int 63), .unset]) (fun _ => rfl) fun p e s m below meth c s₁ hx hby hml hown hnm hret hZ X0 e0 B H => ?_
  have N0 := Fr.nil n0
  have z0 : n0 ≤ h0.size := Z0
  have z1 := o_lt j0.lt
  have z2 := o_lt j1.lt
  have K0 : Keep h0 h0 [a_1] := Keep.refl h0 _
  refine xa X0 B d11_0 rfl rfl ?_
  refine o_gf X0 B H (o_w45 hw) e0 j5 d11_1 fun T3 X3 e3 => ?_
  refine xl X3 B H e3 j0 d11_4 ?_
  refine xa X3 B d11_5 rfl rfl ?_
  refine o_gf X3 B H (o_w47 hw) e3 j2 d11_6 fun T4 X4 e4 => ?_
  refine xshr X4 B d11_9 (62) rfl ?_
  refine xs X4 B d11_10 (l' := #[.val (.ref a_1), .val (.int 63), .val (.int 62)]) rfl ?_
  refine xi X4 B d11_11 rfl ?_
  refine xi X4 B d11_12 rfl ?_
  refine xsub X4 B d11_13 (1) rfl ?_
  have hc5 : 0 < (1 : Int32) := by decide
  refine xn X4 B d11_14 (XT.i0_le_f hc5) ?_
  refine xa X4 B d11_17 rfl rfl ?_
  refine xa X4 B d11_18 rfl rfl ?_
  refine o_gf X4 B H (o_w45 hw) e4 j5 d11_19 fun T6 X6 e6 => ?_
  refine xa X6 B d11_22 rfl rfl ?_
  refine xi X6 B d11_23 rfl ?_
  refine o_cpr X6 B H e6 (o_rm12_s2 (n0 := n0) hw (by omega) a_1 ob0 fa_ob0 j0 j2 j5) (o_h hw 78 rfl) (o_h hw 79 rfl) (o_w41 hw) (o_h hw 82 rfl) (o_h hw 81 rfl) (o_h hw 80 rfl) j1 rfl (lenOf o_pd5 rfl) rfl rfl (W := 2) rfl d11_24 (by decide) ?_
  rintro _ T7 L7 X7 ⟨rfl, N7q, e7⟩
  have N7 := Fr.app N0 N7q
  refine xa X7 B d11_27 rfl rfl ?_
  refine o_gf X7 B H (o_w47 hw) e7 j2 d11_28 fun T8 X8 e8 => ?_
  refine xshl X8 B d11_31 (126) rfl ?_
  refine o_cst X8 B H e8 (o_rm15_s2 (n0 := n0) hw (by omega) ob0 fa_ob0 j0) (o_h hw 93 rfl) (o_h hw 94 rfl) (o_w95 hw) (o_h hw 96 rfl) rfl (lenOf o_pd18 rfl) rfl rfl (W := 1) rfl d11_32 (by decide) ?_
  rintro _ T9 L9 X9 ⟨x_10, rfl, N9q, K9q, f11, f12⟩
  have N9 := Fr.app N7 N9q
  have z13 := K9q.1
  have K9 := K0.trans K9q all0
  have z14 := o_lt f11.lt
  have f15 := (j1.keep K9q)
  have f16 := (j5.keep K9q nin0)
  obtain ⟨T17, h17, X17, e17, W17, st17⟩ := putF X9 hx hZ hown (host := "") (Or.inl (o_w45 hw)) Via.refl rfl f16 f15 (Or.inl (o_w46 hw)) (o_w32 hw) (ty := (.array .byte)) (by decide) rfl rfl (g := (mkF m 35 #[.val (.ref a_1), .val (.int 63), .val (.int 62)] [(.ref x_10), (.ref a_1)])) rfl rfl (hb hby d11_35)
  have z18 := W17.size
  have K17 := K9.wr W17 (Or.inl o_m0)
  have N17 := Fr.snoc X17 N9 (by omega : n0 ≤ a_1)
  have Fw17 : o_F8 Z h17 a_1 (.ref x_10) := Fld.same W17 f16
  refine o_go st17 ?_
  have f20 := (f15.wr W17)
  have f21 := ((j2.keep K9q nin0).other W17 (Or.inr (slot_ne (Or.inl (o_w48 hw)) (Or.inl (o_w46 hw)) (by decide) (t := .byte) (t' := (.array .byte)) (by decide) (by decide))))
  have f22 := ((j3.keep K9q nin0).other W17 (Or.inr (slot_ne (Or.inl (o_w72 hw)) (Or.inl (o_w46 hw)) (by decide) (t := .int) (t' := (.array .byte)) (by decide) (by decide))))
  have f23 := ((j4.keep K9q nin0).other W17 (Or.inr (slot_ne (Or.inl (o_w269 hw)) (Or.inl (o_w46 hw)) (by decide) (t := .boolean) (t' := (.array .byte)) (by decide) (by decide))))
  have f24 := (f11.other W17 (o_ne (by omega)))
  exact o_retV X17 B hret d11_38 (by decide) e17 ⟨x_10, rfl, N17, K17, f20, f21, f22, f23, Fw17, f24, (by omega)⟩
theorem o_rm19_s3 (hw : o_T Z a0) (Z0 : n0 ≤ h0.size) (a_1 a_2 ob0 : Addr) (fa_a_2 fa_ob0 : Nat → Int32) (j0 : o_AV Z h0 a_2 .byte (126 : Int32) (o_by fa_a_2)) (j1 : o_AV Z h0 ob0 .byte (1 : Int32) (o_by fa_ob0)) (j2 : o_E0 Z h0 a_1) (j3 : o_F1 Z h0 a_1 (.int 0)) (j4 : o_F2 Z h0 a_1 (.ref ob0)) (j5 : o_G Z h0) (hd_a_1_a_2 : o_df a_1 a_2) (hd_a_2_ob0 : o_df a_2 ob0) (gw_a_2 : n0 ≤ a_2) :
    M19' l Z (o_rm 1 0 0 40) #[(.ref a_1), (.ref a_2), (.int 62), (.int 0)] h0 (fun v h L => v = none ∧ Fr n0 L ∧ Keep h0 h [a_2] ∧ o_AV Z h a_2 .byte (126 : Int32) (o_by (o_cpi fa_ob0 0 fa_a_2 62 1))) := by
  refine o_start (plainFor_of_name o_pn2) (L0 := #[.val (.ref a_1), .val (.ref a_2), .val (.int 62), .val (.int 0)]) (fun _ => rfl) fun p e s m below meth c s₁ hx hby hml hown hnm hret hZ X0 e0 B H => ?_
  have N0 := Fr.nil n0
  have z0 : n0 ≤ h0.size := Z0
  have z1 := o_lt j0.lt
  have z2 := o_lt j1.lt
  have z3 := o_lt j2.lt
  have K0 : Keep h0 h0 [a_2] := Keep.refl h0 _
  refine xa X0 B d19_0 rfl rfl ?_
  refine o_cvi X0 B H e0 (o_rm10_s1 (n0 := n0) hw (by omega) a_1  j3 j5) (o_w65 hw) (o_w67 hw) (o_w2 hw) (o_w69 hw) (o_w66 hw) (o_w68 hw) (o_w68 hw) rfl j2 rfl (lenOf o_pd14 rfl) rfl rfl (W := 0) rfl d19_1 (by decide) ?_
  rintro _ T4 L4 X4 ⟨rfl, N4q, e4⟩
  have N4 := Fr.app N0 N4q
  refine xi X4 B d19_4 rfl ?_
  have hc5 : (0 : Int32) = (0 : Int32) := by decide
  refine xm X4 B d19_5 (XT.ii_ne_f hc5) ?_
  refine xa X4 B d19_8 rfl rfl ?_
  refine o_gf X4 B H (o_w20 hw) e4 j4 d19_9 fun T6 X6 e6 => ?_
  refine xc X6 B d19_12 0 rfl ?_
  refine xa X6 B d19_13 rfl rfl ?_
  refine xi X6 B d19_14 rfl ?_
  refine xi X6 B d19_15 rfl ?_
  refine xshl X6 B d19_16 (62) rfl ?_
  refine xa X6 B d19_17 rfl rfl ?_
  refine o_gf X6 B H (o_w20 hw) e6 j4 d19_18 fun T7 X7 e7 => ?_
  refine xl X7 B H e7 j1 d19_21 ?_
  obtain ⟨T8, h8, L8, X8, e8, N8, Kq8, V8, st8⟩ := o_cpB X7 hx hZ hown (o_h hw 120 rfl) (o_w103 hw) (o_w101 hw) (o_w102 hw) e7 j1 j0 (sp' := 0) (dp' := 62) (nn' := 1) (by decide) (by decide) (by decide) (by decide) (by decide) (by decide) (by decide) (by decide) N4 (by omega) (g := (mkF m 22 #[.val (.ref a_1), .val (.ref a_2), .val (.int 62), .val (.int 0)] [(.int 1), (.int 62), (.ref a_2), (.int 0), (.ref ob0)])) rfl (by rw [hml]; rfl) rfl (hb hby d19_22) (by decide) (W := 0) (by show 2 * 0 + _ ≤ _; exact Nat.le_of_eq rfl) (by decide)
  have z9 := Kq8.1
  have K8 := K0.trans Kq8 (allS (Or.inl o_m0) all0)
  refine o_go st8 ?_
  refine xg X8 B 25 43 rfl d19_25 (by decide) ?_
  exact o_retV X8 B hret d19_43 (by decide) e8 ⟨rfl, N8, K8, V8⟩
theorem o_rm17_s3 (hw : o_T Z a0) (Z0 : n0 ≤ h0.size) (a_1 a_3 ob0 ob1 : Addr) (fa_ob0 fa_ob1 : Nat → Int32) (j0 : o_AV Z h0 ob0 .byte (126 : Int32) (o_by fa_ob0)) (j1 : o_AV Z h0 ob1 .byte (1 : Int32) (o_by fa_ob1)) (j2 : o_E12 Z h0 a_1) (j3 : o_E0 Z h0 a_3) (j4 : o_F9 Z h0 a_1 (.int 0)) (j5 : o_F8 Z h0 a_1 (.ref ob0)) (j6 : o_F1 Z h0 a_3 (.int 0)) (j7 : o_F2 Z h0 a_3 (.ref ob1)) (j8 : o_G Z h0) (hd_a_1_ob0 : o_df a_1 ob0) (hd_a_3_ob0 : o_df a_3 ob0) (hd_ob0_ob1 : o_df ob0 ob1) (gw_ob0 : n0 ≤ ob0) :
    M17' l Z (o_rm 2 0 0 55) #[(.ref a_1), (.int 62), (.ref a_3)] h0 (fun v h L => v = none ∧ Fr n0 L ∧ Keep h0 h [ob0] ∧ o_AV Z h ob0 .byte (126 : Int32) (o_by (o_cpi fa_ob1 0 fa_ob0 62 1))) := by
  refine o_start (plainFor_of_name o_pn3) (L0 := #[.val (.ref a_1), .val (.int 62), .val (.ref a_3)]) (fun _ => rfl) fun p e s m below meth c s₁ hx hby hml hown hnm hret hZ X0 e0 B H => ?_
  have N0 := Fr.nil n0
  have z0 : n0 ≤ h0.size := Z0
  have z1 := o_lt j0.lt
  have z2 := o_lt j1.lt
  have z3 := o_lt j2.lt
  have z4 := o_lt j3.lt
  have K0 : Keep h0 h0 [ob0] := Keep.refl h0 _
  refine xa X0 B d17_0 rfl rfl ?_
  refine xa X0 B d17_1 rfl rfl ?_
  refine o_cpr X0 B H e0 (o_rm18_s1 (n0 := n0) hw (by omega) a_1 a_3  j3 j4 j6 j8) (o_h hw 109 rfl) (o_w110 hw) (o_w41 hw) (o_h hw 113 rfl) (o_h hw 112 rfl) (o_w111 hw) j2 rfl (lenOf o_pd19 rfl) rfl rfl (W := 0) rfl d17_2 (by decide) ?_
  rintro _ T5 L5 X5 ⟨rfl, N5q, e5⟩
  have N5 := Fr.app N0 N5q
  refine xa X5 B d17_5 rfl rfl ?_
  refine xa X5 B d17_6 rfl rfl ?_
  refine o_gf X5 B H (o_w45 hw) e5 j5 d17_7 fun T6 X6 e6 => ?_
  refine xi X6 B d17_10 rfl ?_
  refine xa X6 B d17_11 rfl rfl ?_
  refine o_gf X6 B H (o_w47 hw) e6 j4 d17_12 fun T7 X7 e7 => ?_
  refine o_cvi X7 B H e7 (o_rm19_s3 (n0 := n0) hw (by omega) a_3 ob0 ob1 fa_ob0 fa_ob1 j0 j1 j3 j6 j7 j8 hd_a_3_ob0 hd_ob0_ob1 (by omega)) (o_w115 hw) (o_w117 hw) (o_w2 hw) (o_h hw 119 rfl) (o_w116 hw) (o_w118 hw) (o_w118 hw) rfl j3 rfl (lenOf o_pd20 rfl) rfl rfl (W := 0) rfl d17_15 (by decide) ?_
  rintro _ T8 L8 X8 ⟨rfl, N8q, K8q, f9⟩
  have N8 := Fr.app N5 N8q
  have z10 := K8q.1
  have K8 := K0.trans K8q (allS (Or.inl o_m0) all0)
  have z11 := o_lt f9.lt
  exact o_retV X8 B hret d17_18 (by decide) rfl ⟨rfl, N8, K8, f9⟩
theorem o_rm8_s3 (hw : o_T Z a0) (Z0 : n0 ≤ h0.size) (a_1 a_2 ob0 ob1 : Addr) (fa_ob0 fa_ob1 : Nat → Int32) (u_0 : Value) (j0 : o_AV Z h0 ob0 .byte (62 : Int32) (o_by fa_ob0)) (j1 : o_AV Z h0 ob1 .byte (1 : Int32) (o_by fa_ob1)) (j2 : o_E12 Z h0 a_1) (j3 : o_E0 Z h0 a_2) (j4 : o_F9 Z h0 a_1 (.int 0)) (j5 : o_F10 Z h0 a_1 (.int 62)) (j6 : o_F11 Z h0 a_1 u_0) (j7 : o_F8 Z h0 a_1 (.ref ob0)) (j8 : o_F1 Z h0 a_2 (.int 0)) (j9 : o_F2 Z h0 a_2 (.ref ob1)) (j10 : o_G Z h0) (hd_a_1_a_2 : o_df a_1 a_2) (hd_a_1_ob0 : o_df a_1 ob0) (hd_a_1_ob1 : o_df a_1 ob1) (gw_a_1 : n0 ≤ a_1) :
    M8' l Z (o_rm 4 1 126 69) #[(.ref a_1), (.ref a_2)] h0 (fun v h L => ∃ (x_0 : Addr), v = some (.ref a_1) ∧ Fr n0 L ∧ Keep h0 h [a_1] ∧ o_E12 Z h a_1 ∧ o_F9 Z h a_1 (.int 0) ∧ o_F10 Z h a_1 (.int 63) ∧ o_F11 Z h a_1 u_0 ∧ o_F8 Z h a_1 (.ref x_0) ∧ o_AV Z h x_0 .byte (126 : Int32) (o_by (o_cpi fa_ob1 0 (o_cpi fa_ob0 0 (fun _ => 0) 0 62) 62 1)) ∧ (h0.size ≤ x_0)) := by
  refine o_start (plainFor_of_name o_pn3) (L0 := #[.val (.ref a_1), .val (.ref a_2), .unset]) (fun _ => rfl) fun p e s m below meth c s₁ hx hby hml hown hnm hret hZ X0 e0 B H => ?_
  have N0 := Fr.nil n0
  have z0 : n0 ≤ h0.size := Z0
  have z1 := o_lt j0.lt
  have z2 := o_lt j1.lt
  have z3 := o_lt j2.lt
  have z4 := o_lt j3.lt
  have K0 : Keep h0 h0 [a_1] := Keep.refl h0 _
  refine xa X0 B d8_0 rfl rfl ?_
  refine xN X0 B 1 9 rfl d8_1 (by decide) ?_
  refine xa X0 B d8_9 rfl rfl ?_
  refine o_cvi X0 B H e0 (o_rm9_s3 (n0 := n0) hw (by omega) a_2 ob1 fa_ob1 j1 j3 j8 j9 j10) (o_w60 hw) (o_w62 hw) (o_w2 hw) (o_h hw 64 rfl) (o_w61 hw) (o_w63 hw) (o_w63 hw) rfl j3 rfl (lenOf o_pd15 rfl) rfl rfl (W := 0) rfl d8_10 (by decide) ?_
  rintro _ T5 L5 X5 ⟨rfl, N5q, e5⟩
  have N5 := Fr.app N0 N5q
  refine xs X5 B d8_13 (l' := #[.val (.ref a_1), .val (.ref a_2), .val (.int 1)]) rfl ?_
  refine xa X5 B d8_14 rfl rfl ?_
  refine xa X5 B d8_15 rfl rfl ?_
  refine o_gf X5 B H (o_w71 hw) e5 j5 d8_16 fun T6 X6 e6 => ?_
  refine xi X6 B d8_19 rfl ?_
  refine xadd X6 B d8_20 (63) rfl ?_
  refine o_cpr X6 B H e6 (o_rm11_s3 (n0 := n0) hw (by omega) a_1 ob0 fa_ob0 (.int 62) u_0 j0 j2 j4 j5 j6 j7 hd_a_1_ob0 (by omega)) (o_h hw 73 rfl) (o_w74 hw) (o_w41 hw) (o_h hw 77 rfl) (o_w76 hw) (o_w75 hw) j2 rfl (lenOf o_pd12 rfl) rfl rfl (W := 0) rfl d8_21 (by decide) ?_
  rintro _ T7 L7 X7 ⟨x_8, rfl, N7q, K7q, f9, f10, f11, f12, f13, f14, f15⟩
  have N7 := Fr.app N5 N7q
  have z16 := K7q.1
  have K7 := K0.trans K7q (allS (Or.inl o_m0) all0)
  have z17 := o_lt f9.lt
  have z18 := o_lt f14.lt
  refine xa X7 B d8_24 rfl rfl ?_
  refine xa X7 B d8_25 rfl rfl ?_
  refine o_gf X7 B H (o_w71 hw) rfl f11 d8_26 fun T19 X19 e19 => ?_
  refine xa X19 B d8_29 rfl rfl ?_
  have f20 := (j1.keep K7q (ninS hd_a_1_ob1.sym nin0))
  have f21 := (j3.keep K7q)
  have f22 := (j8.keep K7q (ninS hd_a_1_a_2.sym nin0))
  have f23 := (j9.keep K7q (ninS hd_a_1_a_2.sym nin0))
  have f24 := (j10.keep K7q (allS (o_exa_plain j2) all0))
  refine o_cpr X19 B H e19 (o_rm17_s3 (n0 := n0) hw (by omega) a_1 a_2 x_8 ob1 (o_cpi fa_ob0 0 (fun _ => 0) 0 62) fa_ob1 f14 f20 f9 f21 f10 f13 f22 f23 f24 (o_ne (by omega)) (o_ne (by omega)) (o_ne (by omega)) (by omega)) (o_h hw 104 rfl) (o_w105 hw) (o_w41 hw) (o_h hw 108 rfl) (o_h hw 107 rfl) (o_w106 hw) f9 rfl (lenOf o_pd21 rfl) rfl rfl (W := 0) rfl d8_30 (by decide) ?_
  rintro _ T25 L25 X25 ⟨rfl, N25q, K25q, f26⟩
  have N25 := Fr.app N7 N25q
  have z27 := K25q.1
  have K25 := K7.trans K25q (allS (Or.inr (by omega)) all0)
  have z28 := o_lt f26.lt
  refine xa X25 B d8_33 rfl rfl ?_
  refine xd X25 B d8_34 rfl ?_
  have f29 := (f11.keep K25q (ninS (o_ne (by omega)) nin0))
  refine o_gf X25 B H (o_w71 hw) rfl f29 d8_35 fun T30 X30 e30 => ?_
  refine xi X30 B d8_38 rfl ?_
  refine xadd X30 B d8_39 (63) rfl ?_
  have f31 := (f9.keep K25q)
  obtain ⟨T32, h32, X32, e32, W32, st32⟩ := putF X30 hx hZ hown (host := "") (Or.inl (o_w71 hw)) Via.refl e30 f29 f31 (Or.inl (o_w72 hw)) (o_w32 hw) (ty := .int) (by decide) rfl rfl (g := (mkF m 40 #[.val (.ref a_1), .val (.ref a_2), .val (.int 1)] [(.int 63), (.ref a_1)])) rfl rfl (hb hby d8_40)
  have z33 := W32.size
  have K32 := K25.wr W32 (Or.inl o_m0)
  have N32 := Fr.snoc X32 N25 (by omega : n0 ≤ a_1)
  have Fw32 : o_F10 Z h32 a_1 (.int 63) := Fld.same W32 f29
  refine o_go st32 ?_
  refine xa X32 B d8_43 rfl rfl ?_
  have f35 := (f31.wr W32)
  have f36 := ((f10.keep K25q (ninS (o_ne (by omega)) nin0)).other W32 (Or.inr (slot_ne (Or.inl (o_w48 hw)) (Or.inl (o_w72 hw)) (by decide) (t := .byte) (t' := .int) (by decide) (by decide))))
  have f37 := ((f12.keep K25q (ninS (o_ne (by omega)) nin0)).other W32 (Or.inr (slot_ne (Or.inl (o_w269 hw)) (Or.inl (o_w72 hw)) (by decide) (t := .boolean) (t' := .int) (by decide) (by decide))))
  have f38 := ((f13.keep K25q (ninS (o_ne (by omega)) nin0)).other W32 (Or.inr (slot_ne (Or.inl (o_w46 hw)) (Or.inl (o_w72 hw)) (by decide) (t := (.array .byte)) (t' := .int) (by decide) (by decide))))
  have f39 := (f26.other W32 (o_ne (by omega)))
  exact o_retA X32 B hret rfl rfl rfl d8_44 (by decide) e32 ⟨x_8, rfl, N32, K32, f35, f36, Fw32, f37, f38, f39, (by omega)⟩
theorem o_rm7_s3 (hw : o_T Z a0) (Z0 : n0 ≤ h0.size) (a_1 a_2 ob0 ob1 : Addr) (fa_ob0 fa_ob1 : Nat → Int32) (u_0 : Value) (j0 : o_AV Z h0 ob0 .byte (62 : Int32) (o_by fa_ob0)) (j1 : o_AV Z h0 ob1 .byte (1 : Int32) (o_by fa_ob1)) (j2 : o_E12 Z h0 a_1) (j3 : o_E0 Z h0 a_2) (j4 : o_F9 Z h0 a_1 (.int 0)) (j5 : o_F10 Z h0 a_1 (.int 62)) (j6 : o_F11 Z h0 a_1 u_0) (j7 : o_F8 Z h0 a_1 (.ref ob0)) (j8 : o_F1 Z h0 a_2 (.int 0)) (j9 : o_F2 Z h0 a_2 (.ref ob1)) (j10 : o_G Z h0) (hd_a_1_a_2 : o_df a_1 a_2) (hd_a_1_ob0 : o_df a_1 ob0) (hd_a_1_ob1 : o_df a_1 ob1) (gw_a_1 : n0 ≤ a_1) :
    M7' l Z (o_rm 5 1 126 83) #[(.ref a_1), (.ref a_2)] h0 (fun v h L => ∃ (x_0 : Addr), v = some (.ref a_1) ∧ Fr n0 L ∧ Keep h0 h [a_1] ∧ o_E12 Z h a_1 ∧ o_F9 Z h a_1 (.int 0) ∧ o_F10 Z h a_1 (.int 63) ∧ o_F11 Z h a_1 u_0 ∧ o_F8 Z h a_1 (.ref x_0) ∧ o_AV Z h x_0 .byte (126 : Int32) (o_by (o_cpi fa_ob1 0 (o_cpi fa_ob0 0 (fun _ => 0) 0 62) 62 1)) ∧ (h0.size ≤ x_0)) := by
  refine o_start (plainFor_of_name o_pn4) (L0 := #[.val (.ref a_1), .val (.ref a_2)]) (fun _ => rfl) fun p e s m below meth c s₁ hx hby hml hown hnm hret hZ X0 e0 B H => ?_
  have N0 := Fr.nil n0
  have z0 : n0 ≤ h0.size := Z0
  have z1 := o_lt j0.lt
  have z2 := o_lt j1.lt
  have z3 := o_lt j2.lt
  have z4 := o_lt j3.lt
  have K0 : Keep h0 h0 [a_1] := Keep.refl h0 _
  refine xa X0 B d7_0 rfl rfl ?_
  refine xa X0 B d7_1 rfl rfl ?_
  refine o_csu X0 B H e0 (o_rm8_s3 (n0 := n0) hw (by omega) a_1 a_2 ob0 ob1 fa_ob0 fa_ob1 u_0 j0 j1 j2 j3 j4 j5 j6 j7 j8 j9 j10 hd_a_1_a_2 hd_a_1_ob0 hd_a_1_ob1 (by omega)) (o_h hw 55 rfl) (o_h hw 56 rfl) (o_w41 hw) (o_h hw 59 rfl) (o_w58 hw) (o_w76 hw) rfl (o_w57 hw) j2 (by decide) rfl (lenOf o_pd22 rfl) rfl rfl (W := 0) rfl d7_2 (by decide) ?_
  rintro _ T5 L5 X5 ⟨x_6, rfl, N5q, K5q, f7, f8, f9, f10, f11, f12, f13⟩
  have N5 := Fr.app N0 N5q
  have z14 := K5q.1
  have K5 := K0.trans K5q (allS (Or.inl o_m0) all0)
  have z15 := o_lt f7.lt
  have z16 := o_lt f12.lt
  refine xp X5 B d7_5 rfl ?_
  refine xa X5 B d7_6 rfl rfl ?_
  exact o_retA X5 B hret rfl rfl rfl d7_7 (by decide) rfl ⟨x_6, rfl, N5, K5, f7, f8, f9, f10, f11, f12, (by omega)⟩
theorem d23_0 : decode jdk_68_method_64_code 0 = .ok (.aload_n 0, 1) := by decide +kernel
theorem d23_1 : decode jdk_68_method_64_code 1 = .ok (.getfield 15, 3) := by decide +kernel
theorem d23_4 : decode jdk_68_method_64_code 4 = .ok (.areturn, 1) := by decide +kernel
theorem o_rm23_s1 (hw : o_T Z a0) (Z0 : n0 ≤ h0.size) (a_1 ob0 : Addr) (j0 : o_F8 Z h0 a_1 (.ref ob0)) :
    M23' l Z (o_rm 0 0 0 0) #[(.ref a_1)] h0 (fun v h L => v = some (.ref ob0) ∧ Fr n0 L ∧ h = h0) := by
  refine o_start (plainFor_of_name o_pn3) (L0 := #[.val (.ref a_1)]) (fun _ => rfl) fun p e s m below meth c s₁ hx hby hml hown hnm hret hZ X0 e0 B H => ?_
  have N0 := Fr.nil n0
  have z0 : n0 ≤ h0.size := Z0
  have z1 := o_lt j0.lt
  refine xa X0 B d23_0 rfl rfl ?_
  refine o_gf X0 B H (o_w45 hw) e0 j0 d23_1 fun T2 X2 e2 => ?_
  exact o_retA X2 B hret rfl rfl rfl d23_4 (by decide) e2 ⟨rfl, N0, rfl⟩
theorem d25_0 : decode jdk_68_method_6_code 0 = .ok (.aload_n 0, 1) := by decide +kernel
theorem d25_1 : decode jdk_68_method_6_code 1 = .ok (.getfield 79, 3) := by decide +kernel
theorem d25_4 : decode jdk_68_method_6_code 4 = .ok (.ireturn, 1) := by decide +kernel
theorem o_rm25_s1 (hw : o_T Z a0) (Z0 : n0 ≤ h0.size) (a_1 : Addr) (j0 : o_F10 Z h0 a_1 (.int 63)) :
    M25' l Z (o_rm 0 0 0 0) #[(.ref a_1)] h0 (fun v h L => v = some (.int 63) ∧ Fr n0 L ∧ h = h0) := by
  refine o_start (plainFor_of_name o_pn3) (L0 := #[.val (.ref a_1)]) (fun _ => rfl) fun p e s m below meth c s₁ hx hby hml hown hnm hret hZ X0 e0 B H => ?_
  have N0 := Fr.nil n0
  have z0 : n0 ≤ h0.size := Z0
  have z1 := o_lt j0.lt
  refine xa X0 B d25_0 rfl rfl ?_
  refine o_gf X0 B H (o_w71 hw) e0 j0 d25_1 fun T2 X2 e2 => ?_
  exact o_retI X2 B hret (Or.inl rfl) rfl d25_4 (by decide) e2 ⟨rfl, N0, rfl⟩
theorem d24_0 : decode jdk_67_method_93_code 0 = .ok (.aload_n 0, 1) := by decide +kernel
theorem d24_1 : decode jdk_67_method_93_code 1 = .ok (.invokespecial 343, 3) := by decide +kernel
theorem d24_4 : decode jdk_67_method_93_code 4 = .ok (.ireturn, 1) := by decide +kernel
theorem o_rm24_s1 (hw : o_T Z a0) (Z0 : n0 ≤ h0.size) (a_1 : Addr) (j0 : o_E12 Z h0 a_1) (j1 : o_F10 Z h0 a_1 (.int 63)) :
    M24' l Z (o_rm 1 0 0 12) #[(.ref a_1)] h0 (fun v h L => v = some (.int 63) ∧ Fr n0 L ∧ h = h0) := by
  refine o_start (plainFor_of_name o_pn4) (L0 := #[.val (.ref a_1)]) (fun _ => rfl) fun p e s m below meth c s₁ hx hby hml hown hnm hret hZ X0 e0 B H => ?_
  have N0 := Fr.nil n0
  have z0 : n0 ≤ h0.size := Z0
  have z1 := o_lt j0.lt
  refine xa X0 B d24_0 rfl rfl ?_
  refine o_csu X0 B H e0 (o_rm25_s1 (n0 := n0) hw (by omega) a_1  j1) (o_h hw 145 rfl) (o_h hw 141 rfl) (o_w41 hw) (o_h hw 146 rfl) (o_h hw 140 rfl) (o_w76 hw) rfl (o_w57 hw) j0 (by decide) rfl (lenOf o_pd15 rfl) rfl rfl (W := 0) rfl d24_1 (by decide) ?_
  rintro _ T2 L2 X2 ⟨rfl, N2q, e2⟩
  have N2 := Fr.app N0 N2q
  exact o_retI X2 B hret (Or.inl rfl) rfl d24_4 (by decide) e2 ⟨rfl, N2, rfl⟩
theorem d26_0 : decode c26' 0 = .ok (.getstatic 18, 3) := by decide +kernel
theorem d26_3 : decode c26' 3 = .ok (.ifCond .eq 14, 3) := by decide +kernel
theorem d26_6 : decode c26' 6 = .ok (.aload_n 0, 1) := by decide +kernel
theorem d26_7 : decode c26' 7 = .ok (.getfield 22, 3) := by decide +kernel
theorem d26_10 : decode c26' 10 = .ok (.ifCond .ne 7, 3) := by decide +kernel
theorem d26_13 : decode c26' 13 = .ok (.iconst 1, 1) := by decide +kernel
theorem d26_14 : decode c26' 14 = .ok (.goto 4, 3) := by decide +kernel
theorem d26_18 : decode c26' 18 = .ok (.ireturn, 1) := by decide +kernel
theorem o_rm26_s1 (hw : o_T Z a0) (Z0 : n0 ≤ h0.size) (a_1 : Addr) (j0 : o_F9 Z h0 a_1 (.int 0)) (j1 : o_G Z h0) :
    M26' l Z (o_rm 0 0 0 0) #[(.ref a_1)] h0 (fun v h L => v = some (.int 1) ∧ Fr n0 L ∧ h = h0) := by
  refine o_start (plainFor_of_name o_pn3) (L0 := #[.val (.ref a_1)]) (fun _ => rfl) fun p e s m below meth c s₁ hx hby hml hown hnm hret hZ X0 e0 B H => ?_
  have N0 := Fr.nil n0
  have z0 : n0 ≤ h0.size := Z0
  have z1 := o_lt j0.lt
  refine o_gs X0 B H (o_h hw 44 rfl) e0 j1.1 d26_0 fun T2 X2 e2 => ?_
  refine xn X2 B d26_3 (XT.i0_eq_f (o_hcs j1)) ?_
  refine xa X2 B d26_6 rfl rfl ?_
  refine o_gf X2 B H (o_w47 hw) e2 j0 d26_7 fun T4 X4 e4 => ?_
  have hc5 : (0 : Int32) = 0 := by decide
  refine xn X4 B d26_10 (XT.i0_ne_f hc5) ?_
  refine xc X4 B d26_13 1 rfl ?_
  refine xg X4 B 14 18 rfl d26_14 (by decide) ?_
  exact o_retI X4 B hret (Or.inr (Or.inl rfl)) rfl d26_18 (by decide) e4 ⟨rfl, N0, rfl⟩
theorem d29_0 : decode c29' 0 = .ok (.iload_n 1, 1) := by decide +kernel
theorem d29_1 : decode c29' 1 = .ok (.iload_n 0, 1) := by decide +kernel
theorem d29_2 : decode c29' 2 = .ok (.if_icmp .ge 35, 3) := by decide +kernel
theorem d29_37 : decode c29' 37 = .ok (.return_, 1) := by decide +kernel
theorem o_rm29_s1 (hw : o_T Z a0) (Z0 : n0 ≤ h0.size) :
    M29' l Z (o_rm 0 0 0 0) #[(.int 0), (.int 63)] h0 (fun v h L => v = none ∧ Fr n0 L ∧ h = h0) := by
  refine o_start (plainFor_of_name o_pn6) (L0 := #[.val (.int 0), .val (.int 63)]) (fun _ => rfl) fun p e s m below meth c s₁ hx hby hml hown hnm hret hZ X0 e0 B H => ?_
  have N0 := Fr.nil n0
  have z0 : n0 ≤ h0.size := Z0
  refine xi X0 B d29_0 rfl ?_
  refine xi X0 B d29_1 rfl ?_
  have hc1 : ¬ ((63 : Int32) < (0 : Int32)) := by decide
  refine xM X0 B 2 37 rfl d29_2 (XT.ii_ge_t hc1) (by decide) ?_
  exact o_retV X0 B hret d29_37 (by decide) e0 ⟨rfl, N0, rfl⟩
theorem d16_9 : decode c16' 9 = .ok (.iload_n 1, 1) := by decide +kernel
theorem o_rm16_s3 (hw : o_T Z a0) (Z0 : n0 ≤ h0.size) :
    M16' l Z (o_rm 0 0 0 0) #[(.int 126), (.int 63)] h0 (fun v h L => v = some (.int 63) ∧ Fr n0 L ∧ h = h0) := by
  refine o_start (Jvm.Free.JP.mathPlain rfl (by decide +kernel)) (L0 := #[.val (.int 126), .val (.int 63)]) (fun _ => rfl) fun p e s m below meth c s₁ hx hby hml hown hnm hret hZ X0 e0 B H => ?_
  have N0 := Fr.nil n0
  have z0 : n0 ≤ h0.size := Z0
  refine xi X0 B d16_0 rfl ?_
  refine xi X0 B d16_1 rfl ?_
  have hc1 : (63 : Int32) < (126 : Int32) := by decide
  refine xM X0 B 2 9 rfl d16_2 (XT.ii_gt_t hc1) (by decide) ?_
  refine xi X0 B d16_9 rfl ?_
  exact o_retI X0 B hret (Or.inl rfl) rfl d16_10 (by decide) e0 ⟨rfl, N0, rfl⟩
theorem d28_0 : decode c28' 0 = .ok (.iload_n 1, 1) := by decide +kernel
theorem d28_1 : decode c28' 1 = .ok (.iload_n 2, 1) := by decide +kernel
theorem d28_2 : decode c28' 2 = .ok (.invokestatic 343, 3) := by decide +kernel
theorem d28_5 : decode c28' 5 = .ok (.iload_n 2, 1) := by decide +kernel
theorem d28_6 : decode c28' 6 = .ok (.iload_n 1, 1) := by decide +kernel
theorem d28_7 : decode c28' 7 = .ok (.isub, 1) := by decide +kernel
theorem d28_8 : decode c28' 8 = .ok (.istore_n 3, 1) := by decide +kernel
theorem d28_9 : decode c28' 9 = .ok (.iload_n 3, 1) := by decide +kernel
theorem d28_10 : decode c28' 10 = .ok (.newarray .byte, 2) := by decide +kernel
theorem d28_12 : decode c28' 12 = .ok (.astore 4, 2) := by decide +kernel
theorem d28_14 : decode c28' 14 = .ok (.aload_n 0, 1) := by decide +kernel
theorem d28_15 : decode c28' 15 = .ok (.iload_n 1, 1) := by decide +kernel
theorem d28_16 : decode c28' 16 = .ok (.aload 4, 2) := by decide +kernel
theorem d28_18 : decode c28' 18 = .ok (.iconst 0, 1) := by decide +kernel
theorem d28_19 : decode c28' 19 = .ok (.aload_n 0, 1) := by decide +kernel
theorem d28_20 : decode c28' 20 = .ok (.arraylength, 1) := by decide +kernel
theorem d28_21 : decode c28' 21 = .ok (.iload_n 1, 1) := by decide +kernel
theorem d28_22 : decode c28' 22 = .ok (.isub, 1) := by decide +kernel
theorem d28_23 : decode c28' 23 = .ok (.iload_n 3, 1) := by decide +kernel
theorem d28_24 : decode c28' 24 = .ok (.invokestatic 304, 3) := by decide +kernel
theorem d28_27 : decode c28' 27 = .ok (.invokestatic 150, 3) := by decide +kernel
theorem d28_30 : decode c28' 30 = .ok (.aload 4, 2) := by decide +kernel
theorem d28_32 : decode c28' 32 = .ok (.areturn, 1) := by decide +kernel
theorem o_rm28_s1 (hw : o_T Z a0) (Z0 : n0 ≤ h0.size) (a_1 : Addr) (fa_a_1 : Nat → Int32) (j0 : o_AV Z h0 a_1 .byte (126 : Int32) (o_by fa_a_1)) :
    M28' l Z (o_rm 1 1 63 40) #[(.ref a_1), (.int 0), (.int 63)] h0 (fun v h L => ∃ (x_0 : Addr), v = some (.ref x_0) ∧ Fr n0 L ∧ Keep h0 h [] ∧ o_AV Z h x_0 .byte (63 : Int32) (o_by (o_cpi fa_a_1 0 (fun _ => 0) 0 63)) ∧ (h0.size ≤ x_0)) := by
  refine o_start (plainFor_of_name o_pn6) (L0 := #[.val (.ref a_1), .val (.int 0), .val (.int 63), .unset, .unset]) (fun _ => rfl) fun p e s m below meth c s₁ hx hby hml hown hnm hret hZ X0 e0 B H => ?_
  have N0 := Fr.nil n0
  have z0 : n0 ≤ h0.size := Z0
  have z1 := o_lt j0.lt
  have K0 : Keep h0 h0 [] := Keep.refl h0 _
  refine xi X0 B d28_0 rfl ?_
  refine xi X0 B d28_1 rfl ?_
  refine o_cst X0 B H e0 (o_rm29_s1 (n0 := n0) hw (by omega)   ) (o_h hw 158 rfl) (o_h hw 159 rfl) (o_w95 hw) (o_h hw 160 rfl) rfl (lenOf o_pd26 rfl) rfl rfl (W := 0) rfl d28_2 (by decide) ?_
  rintro _ T2 L2 X2 ⟨rfl, N2q, e2⟩
  have N2 := Fr.app N0 N2q
  refine xi X2 B d28_5 rfl ?_
  refine xi X2 B d28_6 rfl ?_
  refine xsub X2 B d28_7 (63) rfl ?_
  refine xs X2 B d28_8 (l' := #[.val (.ref a_1), .val (.int 0), .val (.int 63), .val (.int 63), .unset]) rfl ?_
  refine xi X2 B d28_9 rfl ?_
  obtain ⟨T3, h3, k3, X3, e3, E3, A3, st3⟩ := newP X2 hx hZ (hw _ (List.mem_of_getElem? (i := 15) rfl)) e2 (g := (mkF m 10 #[.val (.ref a_1), .val (.int 0), .val (.int 63), .val (.int 63), .unset] [(.int 63)])) rfl (hb hby d28_10) rfl (by decide) (cap := 63) (by decide) (by decide) (by decide) (by decide)
  obtain ⟨b3, g3⟩ : ∃ z, z = h0.size := ⟨_, rfl⟩
  rw [← g3] at A3 st3
  have z4 := E3.1
  have lt_b3 := o_lt A3.lt
  have K3 := K0.ext E3
  have V_b3 : o_AV Z h3 b3 .byte (63 : Int32) (o_by (fun _ => 0)) := o_AV.congr (o_AV.new A3 (by decide)) fun i _ => (o_by0 i).symm
  refine o_go st3 ?_
  refine xT X3 B d28_12 rfl (l' := #[.val (.ref a_1), .val (.int 0), .val (.int 63), .val (.int 63), .val (.ref b3)]) rfl ?_
  refine xa X3 B d28_14 rfl rfl ?_
  refine xi X3 B d28_15 rfl ?_
  refine xA X3 B d28_16 rfl rfl ?_
  refine xc X3 B d28_18 0 rfl ?_
  refine xa X3 B d28_19 rfl rfl ?_
  have f5 := (j0.ext E3)
  refine xl X3 B H e3 f5 d28_20 ?_
  refine xi X3 B d28_21 rfl ?_
  refine xsub X3 B d28_22 (126) rfl ?_
  refine xi X3 B d28_23 rfl ?_
  refine o_cst X3 B H e3 (o_rm16_s3 (n0 := n0) hw (by omega)   ) (o_h hw 97 rfl) (o_h hw 98 rfl) (o_w89 hw) (o_h hw 99 rfl) rfl (lenOf o_pd16 rfl) rfl rfl (W := 4) rfl d28_24 (by decide) ?_
  rintro _ T6 L6 X6 ⟨rfl, N6q, e6⟩
  have N6 := Fr.app N2 N6q
  obtain ⟨T7, h7, L7, X7, e7, N7, Kq7, V7, st7⟩ := o_cpB X6 hx hZ hown (o_h hw 100 rfl) (o_w103 hw) (o_w101 hw) (o_w102 hw) e6 f5 V_b3 (sp' := 0) (dp' := 0) (nn' := 63) (by decide) (by decide) (by decide) (by decide) (by decide) (by decide) (by decide) (by decide) N6 (by omega) (g := (mkF m 27 #[.val (.ref a_1), .val (.int 0), .val (.int 63), .val (.int 63), .val (.ref b3)] [(.int 63), (.int 0), (.ref b3), (.int 0), (.ref a_1)])) rfl (by rw [hml]; rfl) rfl (hb hby d28_27) (by decide) (W := 0) (by show 2 * 0 + _ ≤ _; exact Nat.le_of_eq rfl) (by decide)
  have z8 := Kq7.1
  have K7 := K3.trans Kq7 (allS (Or.inr (by omega)) all0)
  refine o_go st7 ?_
  refine xA X7 B d28_30 rfl rfl ?_
  exact o_retA X7 B hret rfl rfl rfl d28_32 (by decide) e7 ⟨b3, rfl, N7, K7, V7, (by omega)⟩
theorem d27_0 : decode c27' 0 = .ok (.iload_n 1, 1) := by decide +kernel
theorem d27_1 : decode c27' 1 = .ok (.ifCond .ne 9, 3) := by decide +kernel
theorem d27_4 : decode c27' 4 = .ok (.iload_n 2, 1) := by decide +kernel
theorem d27_5 : decode c27' 5 = .ok (.aload_n 0, 1) := by decide +kernel
theorem d27_6 : decode c27' 6 = .ok (.arraylength, 1) := by decide +kernel
theorem d27_7 : decode c27' 7 = .ok (.if_icmp .eq 10, 3) := by decide +kernel
theorem d27_10 : decode c27' 10 = .ok (.aload_n 0, 1) := by decide +kernel
theorem d27_11 : decode c27' 11 = .ok (.iload_n 1, 1) := by decide +kernel
theorem d27_12 : decode c27' 12 = .ok (.iload_n 2, 1) := by decide +kernel
theorem d27_13 : decode c27' 13 = .ok (.invokestatic 339, 3) := by decide +kernel
theorem d27_16 : decode c27' 16 = .ok (.areturn, 1) := by decide +kernel
theorem o_rm27_s1 (hw : o_T Z a0) (Z0 : n0 ≤ h0.size) (a_1 : Addr) (fa_a_1 : Nat → Int32) (j0 : o_AV Z h0 a_1 .byte (126 : Int32) (o_by fa_a_1)) :
    M27' l Z (o_rm 2 1 63 56) #[(.ref a_1), (.int 0), (.int 63)] h0 (fun v h L => ∃ (x_0 : Addr), v = some (.ref x_0) ∧ Fr n0 L ∧ Keep h0 h [] ∧ o_AV Z h x_0 .byte (63 : Int32) (o_by (o_cpi fa_a_1 0 (fun _ => 0) 0 63)) ∧ (h0.size ≤ x_0)) := by
  refine o_start (plainFor_of_name o_pn6) (L0 := #[.val (.ref a_1), .val (.int 0), .val (.int 63)]) (fun _ => rfl) fun p e s m below meth c s₁ hx hby hml hown hnm hret hZ X0 e0 B H => ?_
  have N0 := Fr.nil n0
  have z0 : n0 ≤ h0.size := Z0
  have z1 := o_lt j0.lt
  have K0 : Keep h0 h0 [] := Keep.refl h0 _
  refine xi X0 B d27_0 rfl ?_
  have hc2 : (0 : Int32) = 0 := by decide
  refine xn X0 B d27_1 (XT.i0_ne_f hc2) ?_
  refine xi X0 B d27_4 rfl ?_
  refine xa X0 B d27_5 rfl rfl ?_
  refine xl X0 B H e0 j0 d27_6 ?_
  have hc3 : ¬ ((63 : Int32) = (126 : Int32)) := by decide
  refine xm X0 B d27_7 (XT.ii_eq_f hc3) ?_
  refine xa X0 B d27_10 rfl rfl ?_
  refine xi X0 B d27_11 rfl ?_
  refine xi X0 B d27_12 rfl ?_
  refine o_cst X0 B H e0 (o_rm28_s1 (n0 := n0) hw (by omega) a_1 fa_a_1 j0) (o_h hw 155 rfl) (o_h hw 156 rfl) (o_w95 hw) (o_h hw 157 rfl) rfl (lenOf o_pd27 rfl) rfl rfl (W := 0) rfl d27_13 (by decide) ?_
  rintro _ T4 L4 X4 ⟨x_5, rfl, N4q, K4q, f6, f7⟩
  have N4 := Fr.app N0 N4q
  have z8 := K4q.1
  have K4 := K0.trans K4q all0
  have z9 := o_lt f6.lt
  exact o_retA X4 B hret rfl rfl rfl d27_16 (by decide) rfl ⟨x_5, rfl, N4, K4, f6, (by omega)⟩
theorem d22_0 : decode c22' 0 = .ok (.aload_n 0, 1) := by decide +kernel
theorem d22_1 : decode c22' 1 = .ok (.invokespecial 1, 3) := by decide +kernel
theorem d22_4 : decode c22' 4 = .ok (.aload_n 1, 1) := by decide +kernel
theorem d22_5 : decode c22' 5 = .ok (.invokevirtual 552, 3) := by decide +kernel
theorem d22_8 : decode c22' 8 = .ok (.astore_n 3, 1) := by decide +kernel
theorem d22_9 : decode c22' 9 = .ok (.aload_n 1, 1) := by decide +kernel
theorem d22_10 : decode c22' 10 = .ok (.invokevirtual 549, 3) := by decide +kernel
theorem d22_13 : decode c22' 13 = .ok (.istore 4, 2) := by decide +kernel
theorem d22_15 : decode c22' 15 = .ok (.aload_n 1, 1) := by decide +kernel
theorem d22_16 : decode c22' 16 = .ok (.invokevirtual 1047, 3) := by decide +kernel
theorem d22_19 : decode c22' 19 = .ok (.ifCond .eq 22, 3) := by decide +kernel
theorem d22_22 : decode c22' 22 = .ok (.aload_n 0, 1) := by decide +kernel
theorem d22_23 : decode c22' 23 = .ok (.iconst 0, 1) := by decide +kernel
theorem d22_24 : decode c22' 24 = .ok (.putfield 15, 3) := by decide +kernel
theorem d22_27 : decode c22' 27 = .ok (.aload_n 0, 1) := by decide +kernel
theorem d22_28 : decode c22' 28 = .ok (.aload_n 3, 1) := by decide +kernel
theorem d22_29 : decode c22' 29 = .ok (.iconst 0, 1) := by decide +kernel
theorem d22_30 : decode c22' 30 = .ok (.iload 4, 2) := by decide +kernel
theorem d22_32 : decode c22' 32 = .ok (.invokestatic 54, 3) := by decide +kernel
theorem d22_35 : decode c22' 35 = .ok (.putfield 9, 3) := by decide +kernel
theorem d22_38 : decode c22' 38 = .ok (.goto 59, 3) := by decide +kernel
theorem d22_97 : decode c22' 97 = .ok (.return_, 1) := by decide +kernel
theorem o_rm22_s1 (hw : o_T Z a0) (Z0 : n0 ≤ h0.size) (a_1 a_2 ob0 : Addr) (fa_ob0 : Nat → Int32) (u_0 u_1 : Value) (j0 : o_AV Z h0 ob0 .byte (126 : Int32) (o_by fa_ob0)) (j1 : o_E0 Z h0 a_1) (j2 : o_E12 Z h0 a_2) (j3 : o_F1 Z h0 a_1 u_0) (j4 : o_F2 Z h0 a_1 u_1) (j5 : o_F9 Z h0 a_2 (.int 0)) (j6 : o_F10 Z h0 a_2 (.int 63)) (j7 : o_F8 Z h0 a_2 (.ref ob0)) (j8 : o_G Z h0) (hd_a_1_a_2 : o_df a_1 a_2) (hd_a_1_ob0 : o_df a_1 ob0) (gw_a_1 : n0 ≤ a_1) :
    M22' l Z (o_rm 3 1 63 71) #[(.ref a_1), (.ref a_2), .null] h0 (fun v h L => ∃ (x_0 : Addr), v = none ∧ Fr n0 L ∧ Keep h0 h [a_1] ∧ o_E0 Z h a_1 ∧ o_F1 Z h a_1 (.int 0) ∧ o_F2 Z h a_1 (.ref x_0) ∧ o_AV Z h x_0 .byte (63 : Int32) (o_by (o_cpi fa_ob0 0 (fun _ => 0) 0 63)) ∧ (h0.size ≤ x_0)) := by
  refine o_start (plainFor_of_name o_pn2) (L0 := #[.val (.ref a_1), .val (.ref a_2), .val .null, .unset, .unset]) (fun _ => rfl) fun p e s m below meth c s₁ hx hby hml hown hnm hret hZ X0 e0 B H => ?_
  have N0 := Fr.nil n0
  have z0 : n0 ≤ h0.size := Z0
  have z1 := o_lt j0.lt
  have z2 := o_lt j1.lt
  have z3 := o_lt j2.lt
  have K0 : Keep h0 h0 [a_1] := Keep.refl h0 _
  refine xa X0 B d22_0 rfl rfl ?_
  obtain ⟨T4, X4, e4, st4⟩ := initO X0 hx hZ hown (o_w11 hw) (o_w12 hw) (o_w13 hw) e0 (g := (mkF m 1 #[.val (.ref a_1), .val (.ref a_2), .val .null, .unset, .unset] [(.ref a_1)])) rfl (by rw [hml]; rfl) rfl (hb hby d22_1) (by decide) (W := 0) (by show 2 * 0 + _ ≤ _; exact Nat.le_of_eq rfl) (by decide)
  refine o_go st4 ?_
  refine xa X4 B d22_4 rfl rfl ?_
  refine o_cvi X4 B H e4 (o_rm23_s1 (n0 := n0) hw (by omega) a_2 ob0 j7) (o_h hw 134 rfl) (o_h hw 136 rfl) (o_w41 hw) (o_h hw 138 rfl) (o_h hw 135 rfl) (o_h hw 137 rfl) (o_h hw 137 rfl) rfl j2 rfl (lenOf o_pd24 rfl) rfl rfl (W := 0) rfl d22_5 (by decide) ?_
  rintro _ T5 L5 X5 ⟨rfl, N5q, e5⟩
  have N5 := Fr.app N0 N5q
  refine xt X5 B d22_8 rfl (l' := #[.val (.ref a_1), .val (.ref a_2), .val .null, .val (.ref ob0), .unset]) rfl ?_
  refine xa X5 B d22_9 rfl rfl ?_
  refine o_cvi X5 B H e5 (o_rm24_s1 (n0 := n0) hw (by omega) a_2  j2 j6) (o_h hw 139 rfl) (o_h hw 143 rfl) (o_w33 hw) (o_h hw 144 rfl) (o_h hw 140 rfl) (o_h hw 142 rfl) (o_w76 hw) rfl j2 rfl (lenOf o_pd15 rfl) rfl rfl (W := 0) rfl d22_10 (by decide) ?_
  rintro _ T6 L6 X6 ⟨rfl, N6q, e6⟩
  have N6 := Fr.app N5 N6q
  refine xS X6 B d22_13 (l' := #[.val (.ref a_1), .val (.ref a_2), .val .null, .val (.ref ob0), .val (.int 63)]) rfl ?_
  refine xa X6 B d22_15 rfl rfl ?_
  refine o_cvi X6 B H e6 (o_rm26_s1 (n0 := n0) hw (by omega) a_2  j5 j8) (o_h hw 147 rfl) (o_h hw 149 rfl) (o_w41 hw) (o_h hw 151 rfl) (o_h hw 148 rfl) (o_w150 hw) (o_w150 hw) rfl j2 rfl (lenOf o_pd25 rfl) rfl rfl (W := 0) rfl d22_16 (by decide) ?_
  rintro _ T7 L7 X7 ⟨rfl, N7q, e7⟩
  have N7 := Fr.app N6 N7q
  have hc8 : ¬ ((1 : Int32) = 0) := by decide
  refine xn X7 B d22_19 (XT.i0_eq_f hc8) ?_
  refine xa X7 B d22_22 rfl rfl ?_
  refine xc X7 B d22_23 0 rfl ?_
  obtain ⟨T9, h9, X9, e9, W9, st9⟩ := putFN X7 hx hZ hown (o_w21 hw) Via.refl e7 j3 j1 (Or.inr ⟨(o_w17 hw), rfl, hnm⟩) (o_w1 hw) (ty := .byte) (v' := .int 0) (by decide) (rfl) (fits_nar_byte (0 : Int32)) (g := (mkF m 24 #[.val (.ref a_1), .val (.ref a_2), .val .null, .val (.ref ob0), .val (.int 63)] [(.int 0), (.ref a_1)])) rfl rfl (hb hby d22_24)
  have z10 := W9.size
  have K9 := K0.wr W9 (Or.inl o_m0)
  have N9 := Fr.snoc X9 N7 (by omega : n0 ≤ a_1)
  have Fw9 : o_F1 Z h9 a_1 (.int 0) := Fld.same W9 j3
  refine o_go st9 ?_
  refine xa X9 B d22_27 rfl rfl ?_
  refine xa X9 B d22_28 rfl rfl ?_
  refine xc X9 B d22_29 0 rfl ?_
  refine xI X9 B d22_30 rfl ?_
  have f11 := (j0.other W9 hd_a_1_ob0.sym)
  refine o_cst X9 B H e9 (o_rm27_s1 (n0 := n0) hw (by omega) ob0 fa_ob0 f11) (o_h hw 152 rfl) (o_h hw 153 rfl) (o_w95 hw) (o_h hw 154 rfl) rfl (lenOf o_pd27 rfl) rfl rfl (W := 1) rfl d22_32 (by decide) ?_
  rintro _ T12 L12 X12 ⟨x_13, rfl, N12q, K12q, f14, f15⟩
  have N12 := Fr.app N9 N12q
  have z16 := K12q.1
  have K12 := K9.trans K12q all0
  have z17 := o_lt f14.lt
  have f18 := ((j1.wr W9).keep K12q)
  have f19 := ((j4.other W9 (Or.inr (slot_ne (Or.inr (o_w16 hw)) (Or.inr (o_w17 hw)) (by decide) (t := (.array .byte)) (t' := .byte) (by decide) (by decide)))).keep K12q nin0)
  obtain ⟨T20, h20, X20, e20, W20, st20⟩ := putF X12 hx hZ hown (host := "") (Or.inl (o_w20 hw)) Via.refl rfl f19 f18 (Or.inr ⟨(o_w16 hw), rfl, hnm⟩) (o_w1 hw) (ty := (.array .byte)) (by decide) rfl rfl (g := (mkF m 35 #[.val (.ref a_1), .val (.ref a_2), .val .null, .val (.ref ob0), .val (.int 63)] [(.ref x_13), (.ref a_1)])) rfl rfl (hb hby d22_35)
  have z21 := W20.size
  have K20 := K12.wr W20 (Or.inl o_m0)
  have N20 := Fr.snoc X20 N12 (by omega : n0 ≤ a_1)
  have Fw20 : o_F2 Z h20 a_1 (.ref x_13) := Fld.same W20 f19
  refine o_go st20 ?_
  refine xg X20 B 38 97 rfl d22_38 (by decide) ?_
  have f23 := (f18.wr W20)
  have f24 := ((Fw9.keep K12q nin0).other W20 (Or.inr (slot_ne (Or.inr (o_w17 hw)) (Or.inr (o_w16 hw)) (by decide) (t := .byte) (t' := (.array .byte)) (by decide) (by decide))))
  have f25 := (f14.other W20 (o_ne (by omega)))
  exact o_retV X20 B hret d22_97 (by decide) e20 ⟨x_13, rfl, N20, K20, f23, f24, Fw20, f25, (by omega)⟩
theorem d21_0 : decode c21' 0 = .ok (.aload_n 0, 1) := by decide +kernel
theorem d21_1 : decode c21' 1 = .ok (.aload_n 1, 1) := by decide +kernel
theorem d21_2 : decode c21' 2 = .ok (.aconst_null, 1) := by decide +kernel
theorem d21_3 : decode c21' 3 = .ok (.invokespecial 489, 3) := by decide +kernel
theorem d21_6 : decode c21' 6 = .ok (.return_, 1) := by decide +kernel
theorem o_rm21_s1 (hw : o_T Z a0) (Z0 : n0 ≤ h0.size) (a_1 a_2 ob0 : Addr) (fa_ob0 : Nat → Int32) (u_0 u_1 : Value) (j0 : o_AV Z h0 ob0 .byte (126 : Int32) (o_by fa_ob0)) (j1 : o_E0 Z h0 a_1) (j2 : o_E12 Z h0 a_2) (j3 : o_F1 Z h0 a_1 u_0) (j4 : o_F2 Z h0 a_1 u_1) (j5 : o_F9 Z h0 a_2 (.int 0)) (j6 : o_F10 Z h0 a_2 (.int 63)) (j7 : o_F8 Z h0 a_2 (.ref ob0)) (j8 : o_G Z h0) (hd_a_1_a_2 : o_df a_1 a_2) (hd_a_1_ob0 : o_df a_1 ob0) (gw_a_1 : n0 ≤ a_1) :
    M21' l Z (o_rm 4 1 63 87) #[(.ref a_1), (.ref a_2)] h0 (fun v h L => ∃ (x_0 : Addr), v = none ∧ Fr n0 L ∧ Keep h0 h [a_1] ∧ o_E0 Z h a_1 ∧ o_F1 Z h a_1 (.int 0) ∧ o_F2 Z h a_1 (.ref x_0) ∧ o_AV Z h x_0 .byte (63 : Int32) (o_by (o_cpi fa_ob0 0 (fun _ => 0) 0 63)) ∧ (h0.size ≤ x_0)) := by
  refine o_start (plainFor_of_name o_pn2) (L0 := #[.val (.ref a_1), .val (.ref a_2)]) (fun _ => rfl) fun p e s m below meth c s₁ hx hby hml hown hnm hret hZ X0 e0 B H => ?_
  have N0 := Fr.nil n0
  have z0 : n0 ≤ h0.size := Z0
  have z1 := o_lt j0.lt
  have z2 := o_lt j1.lt
  have z3 := o_lt j2.lt
  have K0 : Keep h0 h0 [a_1] := Keep.refl h0 _
  refine xa X0 B d21_0 rfl rfl ?_
  refine xa X0 B d21_1 rfl rfl ?_
  refine xu X0 B d21_2 ?_
  refine o_csp (a := a_1) X0 B H e0 (o_rm22_s1 (n0 := n0) hw (by omega) a_1 a_2 ob0 fa_ob0 u_0 u_1 j0 j1 j2 j3 j4 j5 j6 j7 j8 hd_a_1_a_2 hd_a_1_ob0 (by omega)) (o_h hw 131 rfl) (o_h hw 132 rfl) (o_w2 hw) (o_h hw 133 rfl) rfl rfl (lenOf o_pd28 rfl) rfl rfl (W := 0) rfl d21_3 (by decide) ?_
  rintro _ T4 L4 X4 ⟨x_5, rfl, N4q, K4q, f6, f7, f8, f9, f10⟩
  have N4 := Fr.app N0 N4q
  have z11 := K4q.1
  have K4 := K0.trans K4q (allS (Or.inl o_m0) all0)
  have z12 := o_lt f6.lt
  have z13 := o_lt f9.lt
  exact o_retV X4 B hret d21_6 (by decide) rfl ⟨x_5, rfl, N4, K4, f6, f7, f8, f9, (by omega)⟩
theorem d20_0 : decode c20' 0 = .ok (.new 18, 3) := by decide +kernel
theorem d20_3 : decode c20' 3 = .ok (.dup, 1) := by decide +kernel
theorem d20_4 : decode c20' 4 = .ok (.aload_n 0, 1) := by decide +kernel
theorem d20_5 : decode c20' 5 = .ok (.invokespecial 137, 3) := by decide +kernel
theorem d20_8 : decode c20' 8 = .ok (.areturn, 1) := by decide +kernel
theorem o_rm20_s1 (hw : o_T Z a0) (Z0 : n0 ≤ h0.size) (a_1 ob0 : Addr) (fa_ob0 : Nat → Int32) (j0 : o_AV Z h0 ob0 .byte (126 : Int32) (o_by fa_ob0)) (j1 : o_E12 Z h0 a_1) (j2 : o_F9 Z h0 a_1 (.int 0)) (j3 : o_F10 Z h0 a_1 (.int 63)) (j4 : o_F8 Z h0 a_1 (.ref ob0)) (j5 : o_G Z h0) :
    M20' l Z (o_rm 5 2 67 101) #[(.ref a_1)] h0 (fun v h L => ∃ (x_0 : Addr) (x_1 : Addr), v = some (.ref x_0) ∧ Fr n0 L ∧ Keep h0 h [] ∧ o_E0 Z h x_0 ∧ o_F1 Z h x_0 (.int 0) ∧ o_F2 Z h x_0 (.ref x_1) ∧ o_AV Z h x_1 .byte (63 : Int32) (o_by (o_cpi fa_ob0 0 (fun _ => 0) 0 63)) ∧ (h0.size ≤ x_0) ∧ (h0.size ≤ x_1) ∧ (o_lts [x_0, x_1])) := by
  refine o_start (plainFor_of_name o_pn4) (L0 := #[.val (.ref a_1)]) (fun _ => rfl) fun p e s m below meth c s₁ hx hby hml hown hnm hret hZ X0 e0 B H => ?_
  have N0 := Fr.nil n0
  have z0 : n0 ≤ h0.size := Z0
  have z1 := o_lt j0.lt
  have z2 := o_lt j1.lt
  have K0 : Keep h0 h0 [] := Keep.refl h0 _
  obtain ⟨T3, h3, X3, e3, E3, A3, D3, Y3, st3⟩ := newO X0 hx hZ hown (o_h hw 127 rfl) (o_w1 hw) (o_w2 hw) e0 (g := (mkF m 0 #[.val (.ref a_1)] [])) rfl (hb hby d20_0) (by decide) (by decide)
  obtain ⟨b3, g3⟩ : ∃ z, z = h0.size := ⟨_, rfl⟩
  rw [← g3] at A3 D3 Y3 st3
  have z4 := E3.1
  have lt_b3 := o_lt A3.lt
  have K3 := K0.ext E3
  have F_value_b3 : o_F2 Z h3 b3 .null := D3 (Or.inr (o_w16 hw)) (ty := (.array .byte)) (by decide)
  have F_coder_b3 : o_F1 Z h3 b3 (.int 0) := D3 (Or.inr (o_w17 hw)) (ty := .byte) (by decide)
  refine o_go st3 ?_
  refine xd X3 B d20_3 rfl ?_
  refine xa X3 B d20_4 rfl rfl ?_
  have f5 := (j0.ext E3)
  have f6 := (j1.ext E3)
  have f7 := (j2.ext E3)
  have f8 := (j3.ext E3)
  have f9 := (j4.ext E3)
  have f10 := (j5.ext E3)
  refine o_csp (a := b3) X3 B H e3 (o_rm21_s1 (n0 := n0) hw (by omega) b3 a_1 ob0 fa_ob0 (.int 0) .null f5 A3 f6 F_coder_b3 F_value_b3 f7 f8 f9 f10 (o_ne (by omega)) (o_ne (by omega)) (by omega)) (o_h hw 128 rfl) (o_h hw 129 rfl) (o_w2 hw) (o_h hw 130 rfl) rfl rfl (lenOf o_pd29 rfl) rfl rfl (W := 1) rfl d20_5 (by decide) ?_
  rintro _ T11 L11 X11 ⟨x_12, rfl, N11q, K11q, f13, f14, f15, f16, f17⟩
  have N11 := Fr.app N0 N11q
  have z18 := K11q.1
  have K11 := K3.trans K11q (allS (Or.inr (by omega)) all0)
  have z19 := o_lt f13.lt
  have z20 := o_lt f16.lt
  exact o_retA X11 B hret rfl rfl rfl d20_8 (by decide) rfl ⟨b3, x_12, rfl, N11, K11, f13, f14, f15, f16, (by omega), (by omega), (by simp only [o_lts, and_true]; omega)⟩
theorem d32_0 : decode c32' 0 = .ok (.aload_n 0, 1) := by decide +kernel
theorem d32_1 : decode c32' 1 = .ok (.invokespecial 1, 3) := by decide +kernel
theorem d32_4 : decode c32' 4 = .ok (.aload_n 0, 1) := by decide +kernel
theorem d32_5 : decode c32' 5 = .ok (.aload_n 0, 1) := by decide +kernel
theorem d32_6 : decode c32' 6 = .ok (.putfield 7, 3) := by decide +kernel
theorem d32_9 : decode c32' 9 = .ok (.aload_n 0, 1) := by decide +kernel
theorem d32_10 : decode c32' 10 = .ok (.getstatic 13, 3) := by decide +kernel
theorem d32_13 : decode c32' 13 = .ok (.putfield 17, 3) := by decide +kernel
theorem d32_16 : decode c32' 16 = .ok (.aload_n 0, 1) := by decide +kernel
theorem d32_17 : decode c32' 17 = .ok (.getstatic 20, 3) := by decide +kernel
theorem d32_20 : decode c32' 20 = .ok (.putfield 24, 3) := by decide +kernel
theorem d32_23 : decode c32' 23 = .ok (.iload 4, 2) := by decide +kernel
theorem d32_25 : decode c32' 25 = .ok (.ifCond .eq 11, 3) := by decide +kernel
theorem d32_36 : decode c32' 36 = .ok (.aload_n 0, 1) := by decide +kernel
theorem d32_37 : decode c32' 37 = .ok (.aconst_null, 1) := by decide +kernel
theorem d32_38 : decode c32' 38 = .ok (.putfield 17, 3) := by decide +kernel
theorem d32_41 : decode c32' 41 = .ok (.aload_n 0, 1) := by decide +kernel
theorem d32_42 : decode c32' 42 = .ok (.aload_n 1, 1) := by decide +kernel
theorem d32_43 : decode c32' 43 = .ok (.putfield 31, 3) := by decide +kernel
theorem d32_46 : decode c32' 46 = .ok (.aload_n 0, 1) := by decide +kernel
theorem d32_47 : decode c32' 47 = .ok (.aload_n 2, 1) := by decide +kernel
theorem d32_48 : decode c32' 48 = .ok (.putfield 7, 3) := by decide +kernel
theorem d32_51 : decode c32' 51 = .ok (.iload_n 3, 1) := by decide +kernel
theorem d32_52 : decode c32' 52 = .ok (.ifCond .ne 8, 3) := by decide +kernel
theorem d32_55 : decode c32' 55 = .ok (.aload_n 0, 1) := by decide +kernel
theorem d32_56 : decode c32' 56 = .ok (.aconst_null, 1) := by decide +kernel
theorem d32_57 : decode c32' 57 = .ok (.putfield 24, 3) := by decide +kernel
theorem d32_60 : decode c32' 60 = .ok (.return_, 1) := by decide +kernel
theorem o_rm32_s1 (hw : o_T Z a0) (Z0 : n0 ≤ h0.size) (a_1 a_2 : Addr) (u_0 u_1 u_2 u_3 u_4 : Value) (j0 : o_E13 Z h0 a_1) (j1 : o_F3 Z h0 a_1 u_0) (j2 : o_F6 Z h0 a_1 u_1) (j3 : o_F7 Z h0 a_1 u_2) (j4 : o_F4 Z h0 a_1 u_3) (j5 : o_F5 Z h0 a_1 u_4) (j6 : o_G Z h0) (gw_a_1 : n0 ≤ a_1) :
    M32' l Z (o_rm 1 0 0 12) #[(.ref a_1), (.ref a_2), .null, (.int 0), (.int 0)] h0 (fun v h L => v = none ∧ Fr n0 L ∧ Keep h0 h [a_1] ∧ o_E13 Z h a_1 ∧ o_F3 Z h a_1 .null ∧ o_F6 Z h a_1 (.ref a_2) ∧ o_F7 Z h a_1 u_2 ∧ o_F4 Z h a_1 .null ∧ o_F5 Z h a_1 .null) := by
  refine o_start (plainFor_of_name o_pn7) (L0 := #[.val (.ref a_1), .val (.ref a_2), .val .null, .val (.int 0), .val (.int 0)]) (fun _ => rfl) fun p e s m below meth c s₁ hx hby hml hown hnm hret hZ X0 e0 B H => ?_
  have N0 := Fr.nil n0
  have z0 : n0 ≤ h0.size := Z0
  have z1 := o_lt j0.lt
  have K0 : Keep h0 h0 [a_1] := Keep.refl h0 _
  refine xa X0 B d32_0 rfl rfl ?_
  obtain ⟨T2, X2, e2, st2⟩ := initO X0 hx hZ hown (o_h hw 175 rfl) (o_w12 hw) (o_w13 hw) e0 (g := (mkF m 1 #[.val (.ref a_1), .val (.ref a_2), .val .null, .val (.int 0), .val (.int 0)] [(.ref a_1)])) rfl (by rw [hml]; rfl) rfl (hb hby d32_1) (by decide) (W := 0) (by show 2 * 0 + _ ≤ _; exact Nat.le_of_eq rfl) (by decide)
  refine o_go st2 ?_
  refine xa X2 B d32_4 rfl rfl ?_
  refine xa X2 B d32_5 rfl rfl ?_
  obtain ⟨T3, h3, X3, e3, W3, st3⟩ := putF X2 hx hZ hown (host := "") (Or.inl (o_h hw 176 rfl)) Via.refl e2 j1 j0 (Or.inl (o_w177 hw)) (o_w27 hw) (ty := (.object "java/lang/Throwable")) (by decide) rfl rfl (g := (mkF m 6 #[.val (.ref a_1), .val (.ref a_2), .val .null, .val (.int 0), .val (.int 0)] [(.ref a_1), (.ref a_1)])) rfl rfl (hb hby d32_6)
  have z4 := W3.size
  have K3 := K0.wr W3 (Or.inl o_m0)
  have N3 := Fr.snoc X3 N0 (by omega : n0 ≤ a_1)
  have Fw3 : o_F3 Z h3 a_1 (.ref a_1) := Fld.same W3 j1
  refine o_go st3 ?_
  refine xa X3 B d32_9 rfl rfl ?_
  have f5 := (j6.wr W3)
  refine o_gs X3 B H (o_h hw 178 rfl) e3 f5.2.2.2.2.2.1 d32_10 fun T6 X6 e6 => ?_
  have f7 := (j0.wr W3)
  have f8 := (j4.other W3 (Or.inr (slot_ne (Or.inl (o_w180 hw)) (Or.inl (o_w177 hw)) (by decide) (t := (.array (.object "java/lang/StackTraceElement"))) (t' := (.object "java/lang/Throwable")) (by decide) (by decide))))
  obtain ⟨T9, h9, X9, e9, W9, st9⟩ := putF X6 hx hZ hown (host := "") (Or.inl (o_h hw 179 rfl)) Via.refl e6 f8 f7 (Or.inl (o_w180 hw)) (o_w27 hw) (ty := (.array (.object "java/lang/StackTraceElement"))) (by decide) rfl rfl (g := (mkF m 13 #[.val (.ref a_1), .val (.ref a_2), .val .null, .val (.int 0), .val (.int 0)] [(.ref (o_us Z)), (.ref a_1)])) rfl rfl (hb hby d32_13)
  have z10 := W9.size
  have K9 := K3.wr W9 (Or.inl o_m0)
  have N9 := Fr.snoc X9 N3 (by omega : n0 ≤ a_1)
  have Fw9 : o_F4 Z h9 a_1 (.ref (o_us Z)) := Fld.same W9 f8
  refine o_go st9 ?_
  refine xa X9 B d32_16 rfl rfl ?_
  have f11 := (f5.wr W9)
  refine o_gs X9 B H (o_h hw 181 rfl) e9 f11.2.2.2.2.2.2.1 d32_17 fun T12 X12 e12 => ?_
  have f13 := (f7.wr W9)
  have f14 := ((j5.other W3 (Or.inr (slot_ne (Or.inl (o_w183 hw)) (Or.inl (o_w177 hw)) (by decide) (t := (.object "java/util/List")) (t' := (.object "java/lang/Throwable")) (by decide) (by decide)))).other W9 (Or.inr (slot_ne (Or.inl (o_w183 hw)) (Or.inl (o_w180 hw)) (by decide) (t := (.object "java/util/List")) (t' := (.array (.object "java/lang/StackTraceElement"))) (by decide) (by decide))))
  obtain ⟨T15, h15, X15, e15, W15, st15⟩ := putF X12 hx hZ hown (host := "") (Or.inl (o_h hw 182 rfl)) Via.refl e12 f14 f13 (Or.inl (o_w183 hw)) (o_w27 hw) (ty := (.object "java/util/List")) (by decide) rfl rfl (g := (mkF m 20 #[.val (.ref a_1), .val (.ref a_2), .val .null, .val (.int 0), .val (.int 0)] [(.ref (o_ss Z)), (.ref a_1)])) rfl rfl (hb hby d32_20)
  have z16 := W15.size
  have K15 := K9.wr W15 (Or.inl o_m0)
  have N15 := Fr.snoc X15 N9 (by omega : n0 ≤ a_1)
  have Fw15 : o_F5 Z h15 a_1 (.ref (o_ss Z)) := Fld.same W15 f14
  refine o_go st15 ?_
  refine xI X15 B d32_23 rfl ?_
  have hc17 : (0 : Int32) = 0 := by decide
  refine xy X15 B 25 36 rfl d32_25 (XT.i0_eq_t hc17) (by decide) ?_
  refine xa X15 B d32_36 rfl rfl ?_
  refine xu X15 B d32_37 ?_
  have f18 := (f13.wr W15)
  have f19 := (Fw9.other W15 (Or.inr (slot_ne (Or.inl (o_w180 hw)) (Or.inl (o_w183 hw)) (by decide) (t := (.array (.object "java/lang/StackTraceElement"))) (t' := (.object "java/util/List")) (by decide) (by decide))))
  obtain ⟨T20, h20, X20, e20, W20, st20⟩ := putF X15 hx hZ hown (host := "") (Or.inl (o_h hw 179 rfl)) Via.refl e15 f19 f18 (Or.inl (o_w180 hw)) (o_w27 hw) (ty := (.array (.object "java/lang/StackTraceElement"))) (by decide) rfl rfl (g := (mkF m 38 #[.val (.ref a_1), .val (.ref a_2), .val .null, .val (.int 0), .val (.int 0)] [.null, (.ref a_1)])) rfl rfl (hb hby d32_38)
  have z21 := W20.size
  have K20 := K15.wr W20 (Or.inl o_m0)
  have N20 := Fr.snoc X20 N15 (by omega : n0 ≤ a_1)
  have Fw20 : o_F4 Z h20 a_1 .null := Fld.same W20 f19
  refine o_go st20 ?_
  refine xa X20 B d32_41 rfl rfl ?_
  refine xa X20 B d32_42 rfl rfl ?_
  have f22 := (f18.wr W20)
  have f23 := ((((j2.other W3 (Or.inr (slot_ne (Or.inl (o_w185 hw)) (Or.inl (o_w177 hw)) (by decide) (t := (.object "java/lang/String")) (t' := (.object "java/lang/Throwable")) (by decide) (by decide)))).other W9 (Or.inr (slot_ne (Or.inl (o_w185 hw)) (Or.inl (o_w180 hw)) (by decide) (t := (.object "java/lang/String")) (t' := (.array (.object "java/lang/StackTraceElement"))) (by decide) (by decide)))).other W15 (Or.inr (slot_ne (Or.inl (o_w185 hw)) (Or.inl (o_w183 hw)) (by decide) (t := (.object "java/lang/String")) (t' := (.object "java/util/List")) (by decide) (by decide)))).other W20 (Or.inr (slot_ne (Or.inl (o_w185 hw)) (Or.inl (o_w180 hw)) (by decide) (t := (.object "java/lang/String")) (t' := (.array (.object "java/lang/StackTraceElement"))) (by decide) (by decide))))
  obtain ⟨T24, h24, X24, e24, W24, st24⟩ := putF X20 hx hZ hown (host := "") (Or.inl (o_h hw 184 rfl)) Via.refl e20 f23 f22 (Or.inl (o_w185 hw)) (o_w27 hw) (ty := (.object "java/lang/String")) (by decide) rfl rfl (g := (mkF m 43 #[.val (.ref a_1), .val (.ref a_2), .val .null, .val (.int 0), .val (.int 0)] [(.ref a_2), (.ref a_1)])) rfl rfl (hb hby d32_43)
  have z25 := W24.size
  have K24 := K20.wr W24 (Or.inl o_m0)
  have N24 := Fr.snoc X24 N20 (by omega : n0 ≤ a_1)
  have Fw24 : o_F6 Z h24 a_1 (.ref a_2) := Fld.same W24 f23
  refine o_go st24 ?_
  refine xa X24 B d32_46 rfl rfl ?_
  refine xa X24 B d32_47 rfl rfl ?_
  have f26 := (f22.wr W24)
  have f27 := ((((Fw3.other W9 (Or.inr (slot_ne (Or.inl (o_w177 hw)) (Or.inl (o_w180 hw)) (by decide) (t := (.object "java/lang/Throwable")) (t' := (.array (.object "java/lang/StackTraceElement"))) (by decide) (by decide)))).other W15 (Or.inr (slot_ne (Or.inl (o_w177 hw)) (Or.inl (o_w183 hw)) (by decide) (t := (.object "java/lang/Throwable")) (t' := (.object "java/util/List")) (by decide) (by decide)))).other W20 (Or.inr (slot_ne (Or.inl (o_w177 hw)) (Or.inl (o_w180 hw)) (by decide) (t := (.object "java/lang/Throwable")) (t' := (.array (.object "java/lang/StackTraceElement"))) (by decide) (by decide)))).other W24 (Or.inr (slot_ne (Or.inl (o_w177 hw)) (Or.inl (o_w185 hw)) (by decide) (t := (.object "java/lang/Throwable")) (t' := (.object "java/lang/String")) (by decide) (by decide))))
  obtain ⟨T28, h28, X28, e28, W28, st28⟩ := putF X24 hx hZ hown (host := "") (Or.inl (o_h hw 176 rfl)) Via.refl e24 f27 f26 (Or.inl (o_w177 hw)) (o_w27 hw) (ty := (.object "java/lang/Throwable")) (by decide) rfl rfl (g := (mkF m 48 #[.val (.ref a_1), .val (.ref a_2), .val .null, .val (.int 0), .val (.int 0)] [.null, (.ref a_1)])) rfl rfl (hb hby d32_48)
  have z29 := W28.size
  have K28 := K24.wr W28 (Or.inl o_m0)
  have N28 := Fr.snoc X28 N24 (by omega : n0 ≤ a_1)
  have Fw28 : o_F3 Z h28 a_1 .null := Fld.same W28 f27
  refine o_go st28 ?_
  refine xi X28 B d32_51 rfl ?_
  have hc30 : (0 : Int32) = 0 := by decide
  refine xn X28 B d32_52 (XT.i0_ne_f hc30) ?_
  refine xa X28 B d32_55 rfl rfl ?_
  refine xu X28 B d32_56 ?_
  have f31 := (f26.wr W28)
  have f32 := (((Fw15.other W20 (Or.inr (slot_ne (Or.inl (o_w183 hw)) (Or.inl (o_w180 hw)) (by decide) (t := (.object "java/util/List")) (t' := (.array (.object "java/lang/StackTraceElement"))) (by decide) (by decide)))).other W24 (Or.inr (slot_ne (Or.inl (o_w183 hw)) (Or.inl (o_w185 hw)) (by decide) (t := (.object "java/util/List")) (t' := (.object "java/lang/String")) (by decide) (by decide)))).other W28 (Or.inr (slot_ne (Or.inl (o_w183 hw)) (Or.inl (o_w177 hw)) (by decide) (t := (.object "java/util/List")) (t' := (.object "java/lang/Throwable")) (by decide) (by decide))))
  obtain ⟨T33, h33, X33, e33, W33, st33⟩ := putF X28 hx hZ hown (host := "") (Or.inl (o_h hw 182 rfl)) Via.refl e28 f32 f31 (Or.inl (o_w183 hw)) (o_w27 hw) (ty := (.object "java/util/List")) (by decide) rfl rfl (g := (mkF m 57 #[.val (.ref a_1), .val (.ref a_2), .val .null, .val (.int 0), .val (.int 0)] [.null, (.ref a_1)])) rfl rfl (hb hby d32_57)
  have z34 := W33.size
  have K33 := K28.wr W33 (Or.inl o_m0)
  have N33 := Fr.snoc X33 N28 (by omega : n0 ≤ a_1)
  have Fw33 : o_F5 Z h33 a_1 .null := Fld.same W33 f32
  refine o_go st33 ?_
  have f36 := (f31.wr W33)
  have f37 := (Fw28.other W33 (Or.inr (slot_ne (Or.inl (o_w177 hw)) (Or.inl (o_w183 hw)) (by decide) (t := (.object "java/lang/Throwable")) (t' := (.object "java/util/List")) (by decide) (by decide))))
  have f38 := ((Fw24.other W28 (Or.inr (slot_ne (Or.inl (o_w185 hw)) (Or.inl (o_w177 hw)) (by decide) (t := (.object "java/lang/String")) (t' := (.object "java/lang/Throwable")) (by decide) (by decide)))).other W33 (Or.inr (slot_ne (Or.inl (o_w185 hw)) (Or.inl (o_w183 hw)) (by decide) (t := (.object "java/lang/String")) (t' := (.object "java/util/List")) (by decide) (by decide))))
  have f39 := (((((((j3.other W3 (Or.inr (slot_ne (Or.inr (o_w187 hw)) (Or.inl (o_w177 hw)) (by decide) (t := (.object "com/example/orderly_storefront/orderlystorefront/cart/CartException$Reason")) (t' := (.object "java/lang/Throwable")) (by decide) (by decide)))).other W9 (Or.inr (slot_ne (Or.inr (o_w187 hw)) (Or.inl (o_w180 hw)) (by decide) (t := (.object "com/example/orderly_storefront/orderlystorefront/cart/CartException$Reason")) (t' := (.array (.object "java/lang/StackTraceElement"))) (by decide) (by decide)))).other W15 (Or.inr (slot_ne (Or.inr (o_w187 hw)) (Or.inl (o_w183 hw)) (by decide) (t := (.object "com/example/orderly_storefront/orderlystorefront/cart/CartException$Reason")) (t' := (.object "java/util/List")) (by decide) (by decide)))).other W20 (Or.inr (slot_ne (Or.inr (o_w187 hw)) (Or.inl (o_w180 hw)) (by decide) (t := (.object "com/example/orderly_storefront/orderlystorefront/cart/CartException$Reason")) (t' := (.array (.object "java/lang/StackTraceElement"))) (by decide) (by decide)))).other W24 (Or.inr (slot_ne (Or.inr (o_w187 hw)) (Or.inl (o_w185 hw)) (by decide) (t := (.object "com/example/orderly_storefront/orderlystorefront/cart/CartException$Reason")) (t' := (.object "java/lang/String")) (by decide) (by decide)))).other W28 (Or.inr (slot_ne (Or.inr (o_w187 hw)) (Or.inl (o_w177 hw)) (by decide) (t := (.object "com/example/orderly_storefront/orderlystorefront/cart/CartException$Reason")) (t' := (.object "java/lang/Throwable")) (by decide) (by decide)))).other W33 (Or.inr (slot_ne (Or.inr (o_w187 hw)) (Or.inl (o_w183 hw)) (by decide) (t := (.object "com/example/orderly_storefront/orderlystorefront/cart/CartException$Reason")) (t' := (.object "java/util/List")) (by decide) (by decide))))
  have f40 := (((Fw20.other W24 (Or.inr (slot_ne (Or.inl (o_w180 hw)) (Or.inl (o_w185 hw)) (by decide) (t := (.array (.object "java/lang/StackTraceElement"))) (t' := (.object "java/lang/String")) (by decide) (by decide)))).other W28 (Or.inr (slot_ne (Or.inl (o_w180 hw)) (Or.inl (o_w177 hw)) (by decide) (t := (.array (.object "java/lang/StackTraceElement"))) (t' := (.object "java/lang/Throwable")) (by decide) (by decide)))).other W33 (Or.inr (slot_ne (Or.inl (o_w180 hw)) (Or.inl (o_w183 hw)) (by decide) (t := (.array (.object "java/lang/StackTraceElement"))) (t' := (.object "java/util/List")) (by decide) (by decide))))
  exact o_retV X33 B hret d32_60 (by decide) e33 ⟨rfl, N33, K33, f36, f37, f38, f39, f40, Fw33⟩
theorem d31_0 : decode c31' 0 = .ok (.aload_n 0, 1) := by decide +kernel
theorem d31_1 : decode c31' 1 = .ok (.aload_n 1, 1) := by decide +kernel
theorem d31_2 : decode c31' 2 = .ok (.aload_n 2, 1) := by decide +kernel
theorem d31_3 : decode c31' 3 = .ok (.iload_n 3, 1) := by decide +kernel
theorem d31_4 : decode c31' 4 = .ok (.iload 4, 2) := by decide +kernel
theorem d31_6 : decode c31' 6 = .ok (.invokespecial 16, 3) := by decide +kernel
theorem d31_9 : decode c31' 9 = .ok (.return_, 1) := by decide +kernel
theorem o_rm31_s1 (hw : o_T Z a0) (Z0 : n0 ≤ h0.size) (a_1 a_2 : Addr) (u_0 u_1 u_2 u_3 u_4 : Value) (j0 : o_E13 Z h0 a_1) (j1 : o_F3 Z h0 a_1 u_0) (j2 : o_F6 Z h0 a_1 u_1) (j3 : o_F7 Z h0 a_1 u_2) (j4 : o_F4 Z h0 a_1 u_3) (j5 : o_F5 Z h0 a_1 u_4) (j6 : o_G Z h0) (gw_a_1 : n0 ≤ a_1) :
    M31' l Z (o_rm 2 0 0 28) #[(.ref a_1), (.ref a_2), .null, (.int 0), (.int 0)] h0 (fun v h L => v = none ∧ Fr n0 L ∧ Keep h0 h [a_1] ∧ o_E13 Z h a_1 ∧ o_F3 Z h a_1 .null ∧ o_F6 Z h a_1 (.ref a_2) ∧ o_F7 Z h a_1 u_2 ∧ o_F4 Z h a_1 .null ∧ o_F5 Z h a_1 .null) := by
  refine o_start (plainFor_of_name o_pn8) (L0 := #[.val (.ref a_1), .val (.ref a_2), .val .null, .val (.int 0), .val (.int 0)]) (fun _ => rfl) fun p e s m below meth c s₁ hx hby hml hown hnm hret hZ X0 e0 B H => ?_
  have N0 := Fr.nil n0
  have z0 : n0 ≤ h0.size := Z0
  have z1 := o_lt j0.lt
  have K0 : Keep h0 h0 [a_1] := Keep.refl h0 _
  refine xa X0 B d31_0 rfl rfl ?_
  refine xa X0 B d31_1 rfl rfl ?_
  refine xa X0 B d31_2 rfl rfl ?_
  refine xi X0 B d31_3 rfl ?_
  refine xI X0 B d31_4 rfl ?_
  refine o_csp (a := a_1) X0 B H e0 (o_rm32_s1 (n0 := n0) hw (by omega) a_1 a_2 u_0 u_1 u_2 u_3 u_4 j0 j1 j2 j3 j4 j5 j6 (by omega)) (o_h hw 169 rfl) (o_h hw 170 rfl) (o_w173 hw) (o_h hw 174 rfl) rfl rfl (lenOf o_pd31 rfl) rfl rfl (W := 0) rfl d31_6 (by decide) ?_
  rintro _ T2 L2 X2 ⟨rfl, N2q, K2q, f3, f4, f5, f6, f7, f8⟩
  have N2 := Fr.app N0 N2q
  have z9 := K2q.1
  have K2 := K0.trans K2q (allS (Or.inl o_m0) all0)
  have z10 := o_lt f3.lt
  exact o_retV X2 B hret d31_9 (by decide) rfl ⟨rfl, N2, K2, f3, f4, f5, f6, f7, f8⟩
theorem d30_0 : decode c30' 0 = .ok (.aload_n 0, 1) := by decide +kernel
theorem d30_1 : decode c30' 1 = .ok (.aload_n 2, 1) := by decide +kernel
theorem d30_2 : decode c30' 2 = .ok (.aconst_null, 1) := by decide +kernel
theorem d30_3 : decode c30' 3 = .ok (.iconst 0, 1) := by decide +kernel
theorem d30_4 : decode c30' 4 = .ok (.iconst 0, 1) := by decide +kernel
theorem d30_5 : decode c30' 5 = .ok (.invokespecial 1, 3) := by decide +kernel
theorem d30_8 : decode c30' 8 = .ok (.aload_n 0, 1) := by decide +kernel
theorem d30_9 : decode c30' 9 = .ok (.aload_n 1, 1) := by decide +kernel
theorem d30_10 : decode c30' 10 = .ok (.putfield 7, 3) := by decide +kernel
theorem d30_13 : decode c30' 13 = .ok (.return_, 1) := by decide +kernel
theorem o_rm30_s1 (hw : o_T Z a0) (Z0 : n0 ≤ h0.size) (a_1 a_2 a_3 : Addr) (u_0 u_1 u_2 u_3 u_4 : Value) (j0 : o_E13 Z h0 a_1) (j1 : o_F3 Z h0 a_1 u_0) (j2 : o_F6 Z h0 a_1 u_1) (j3 : o_F7 Z h0 a_1 u_2) (j4 : o_F4 Z h0 a_1 u_3) (j5 : o_F5 Z h0 a_1 u_4) (j6 : o_G Z h0) (gw_a_1 : n0 ≤ a_1) :
    M30' l Z (o_rm 3 0 0 44) #[(.ref a_1), (.ref a_2), (.ref a_3)] h0 (fun v h L => v = none ∧ Fr n0 L ∧ Keep h0 h [a_1] ∧ o_E13 Z h a_1 ∧ o_F3 Z h a_1 .null ∧ o_F6 Z h a_1 (.ref a_3) ∧ o_F7 Z h a_1 (.ref a_2) ∧ o_F4 Z h a_1 .null ∧ o_F5 Z h a_1 .null) := by
  refine o_start (plainFor_of_name o_pn9) (L0 := #[.val (.ref a_1), .val (.ref a_2), .val (.ref a_3)]) (fun _ => rfl) fun p e s m below meth c s₁ hx hby hml hown hnm hret hZ X0 e0 B H => ?_
  have N0 := Fr.nil n0
  have z0 : n0 ≤ h0.size := Z0
  have z1 := o_lt j0.lt
  have K0 : Keep h0 h0 [a_1] := Keep.refl h0 _
  refine xa X0 B d30_0 rfl rfl ?_
  refine xa X0 B d30_1 rfl rfl ?_
  refine xu X0 B d30_2 ?_
  refine xc X0 B d30_3 0 rfl ?_
  refine xc X0 B d30_4 0 rfl ?_
  refine o_csp (a := a_1) X0 B H e0 (o_rm31_s1 (n0 := n0) hw (by omega) a_1 a_3 u_0 u_1 u_2 u_3 u_4 j0 j1 j2 j3 j4 j5 j6 (by omega)) (o_h hw 164 rfl) (o_h hw 165 rfl) (o_h hw 167 rfl) (o_h hw 168 rfl) rfl rfl (lenOf o_pd31 rfl) rfl rfl (W := 0) rfl d30_5 (by decide) ?_
  rintro _ T2 L2 X2 ⟨rfl, N2q, K2q, f3, f4, f5, f6, f7, f8⟩
  have N2 := Fr.app N0 N2q
  have z9 := K2q.1
  have K2 := K0.trans K2q (allS (Or.inl o_m0) all0)
  have z10 := o_lt f3.lt
  refine xa X2 B d30_8 rfl rfl ?_
  refine xa X2 B d30_9 rfl rfl ?_
  obtain ⟨T11, h11, X11, e11, W11, st11⟩ := putF X2 hx hZ hown (host := "") (Or.inl (o_h hw 186 rfl)) Via.refl rfl f6 f3 (Or.inr ⟨(o_w187 hw), rfl, hnm⟩) (o_w27 hw) (ty := (.object "com/example/orderly_storefront/orderlystorefront/cart/CartException$Reason")) (by decide) rfl rfl (g := (mkF m 10 #[.val (.ref a_1), .val (.ref a_2), .val (.ref a_3)] [(.ref a_2), (.ref a_1)])) rfl rfl (hb hby d30_10)
  have z12 := W11.size
  have K11 := K2.wr W11 (Or.inl o_m0)
  have N11 := Fr.snoc X11 N2 (by omega : n0 ≤ a_1)
  have Fw11 : o_F7 Z h11 a_1 (.ref a_2) := Fld.same W11 f6
  refine o_go st11 ?_
  have f14 := (f3.wr W11)
  have f15 := (f4.other W11 (Or.inr (slot_ne (Or.inl (o_w177 hw)) (Or.inr (o_w187 hw)) (by decide) (t := (.object "java/lang/Throwable")) (t' := (.object "com/example/orderly_storefront/orderlystorefront/cart/CartException$Reason")) (by decide) (by decide))))
  have f16 := (f5.other W11 (Or.inr (slot_ne (Or.inl (o_w185 hw)) (Or.inr (o_w187 hw)) (by decide) (t := (.object "java/lang/String")) (t' := (.object "com/example/orderly_storefront/orderlystorefront/cart/CartException$Reason")) (by decide) (by decide))))
  have f17 := (f7.other W11 (Or.inr (slot_ne (Or.inl (o_w180 hw)) (Or.inr (o_w187 hw)) (by decide) (t := (.array (.object "java/lang/StackTraceElement"))) (t' := (.object "com/example/orderly_storefront/orderlystorefront/cart/CartException$Reason")) (by decide) (by decide))))
  have f18 := (f8.other W11 (Or.inr (slot_ne (Or.inl (o_w183 hw)) (Or.inr (o_w187 hw)) (by decide) (t := (.object "java/util/List")) (t' := (.object "com/example/orderly_storefront/orderlystorefront/cart/CartException$Reason")) (by decide) (by decide))))
  exact o_retV X11 B hret d30_13 (by decide) e11 ⟨rfl, N11, K11, f14, f15, f16, Fw11, f17, f18⟩
theorem d4_0 : decode c4' 0 = .ok (.new 8, 3) := by decide +kernel
theorem d4_3 : decode c4' 3 = .ok (.dup, 1) := by decide +kernel
theorem d4_4 : decode c4' 4 = .ok (.getstatic 13, 3) := by decide +kernel
theorem d4_7 : decode c4' 7 = .ok (.new 18, 3) := by decide +kernel
theorem d4_10 : decode c4' 10 = .ok (.dup, 1) := by decide +kernel
theorem d4_11 : decode c4' 11 = .ok (.invokespecial 20, 3) := by decide +kernel
theorem d4_14 : decode c4' 14 = .ok (.ldc 25, 2) := by decide +kernel
theorem d4_16 : decode c4' 16 = .ok (.invokevirtual 27, 3) := by decide +kernel
theorem d4_19 : decode c4' 19 = .ok (.aload_n 0, 1) := by decide +kernel
theorem d4_20 : decode c4' 20 = .ok (.invokevirtual 27, 3) := by decide +kernel
theorem d4_23 : decode c4' 23 = .ok (.ldc 31, 2) := by decide +kernel
theorem d4_25 : decode c4' 25 = .ok (.invokevirtual 27, 3) := by decide +kernel
theorem d4_28 : decode c4' 28 = .ok (.invokevirtual 33, 3) := by decide +kernel
theorem d4_31 : decode c4' 31 = .ok (.invokespecial 37, 3) := by decide +kernel
theorem d4_34 : decode c4' 34 = .ok (.areturn, 1) := by decide +kernel
theorem o_ef_own_rm4_k0 (m : MethodId) (x0 : Addr) : entryFrame m #[(.ref x0)] 1 = mkF m 0 #[.val (.ref x0)] [] := by first | (simp [entryFrame, mkF, argsToLocals, Value.category]; done) | rfl
def o_Q4_k0 (Z : State) (a_1 : Addr) (oq : Addr) (fq : Nat → Int32) (h0 : Heap) (n0 : Nat) (v : Option Value) (h : Heap) (L : List Loc) : Prop := ∃ (x_0 : Addr) (x_1 : Addr) (x_2 : Addr), v = some (.ref x_0) ∧ Fr n0 L ∧ Keep h0 h [] ∧ o_E13 Z h x_0 ∧ o_F3 Z h x_0 .null ∧ o_F6 Z h x_0 (.ref x_1) ∧ o_F7 Z h x_0 (.ref (o_iq Z)) ∧ o_F4 Z h x_0 .null ∧ o_F5 Z h x_0 .null ∧ o_E0 Z h x_1 ∧ o_F1 Z h x_1 (.int 0) ∧ o_F2 Z h x_1 (.ref x_2) ∧ o_AV Z h x_2 .byte (63 : Int32) (o_by (o_cpi (o_cpi (o_ls [46]) 0 (o_cpi (o_cpi fq 0 (o_cpi (o_ls o_T62) 0 (o_cpi (fun _ => 0) 0 (fun _ => 0) 0 16) 0 62) 62 0) 0 (fun _ => 0) 0 62) 62 1) 0 (fun _ => 0) 0 63)) ∧ (h0.size ≤ x_0) ∧ (h0.size ≤ x_1) ∧ (h0.size ≤ x_2) ∧ (o_lts [x_0, x_1, x_2])
theorem o_rm4_k0 (l : Launch) (Z : State) (a0 : Array Value) (hw : ∀ d ∈ tables_1, d.before a0 Z = true) (ws : List Jvm.Cond) (a_1 : Addr) (oq : Addr) (fq : Nat → Int32) (h0 : Heap) (n0 : Nat) (Z0 : n0 ≤ h0.size) (j0 : o_G Z h0) (j1 : o_E0 Z h0 a_1) (j2 : o_F2 Z h0 a_1 (.ref oq)) (j3 : o_F1 Z h0 a_1 (.int 0)) (j4 : o_AV Z h0 oq .byte (0 : Int32) (o_by fq)) (hg_n0 : n0 = h0.size) (hold : o_old Z h0) :
    MetFree l (⟨"com/example/orderly_storefront/orderlystorefront/cart/CartException", "invalidQuantity", "(Ljava/lang/String;)Lcom/example/orderly_storefront/orderlystorefront/cart/CartException;"⟩ : MethodName) (head1 (Jvm.Cond.code (⟨"com/example/orderly_storefront/orderlystorefront/cart/CartException", "invalidQuantity", "(Ljava/lang/String;)Lcom/example/orderly_storefront/orderlystorefront/cart/CartException;"⟩ : MethodName) prog_5_method_2_code 1 (some (.object "com/example/orderly_storefront/orderlystorefront/cart/CartException")) :: ws) ({ frames := 6, cells := 11, slots := 542, locals := 116 } : Room)) (fun a U => a = #[(.ref a_1)] ∧ Z.Warmed39 U.vm ∧ U.heap = h0 ∧ (fun vm : Vm => Jvm.ConstHeldL (Z.setVm vm) "com/example/orderly_storefront/orderlystorefront/cart/CartException" 25 ∧ Jvm.ConstHeldL (Z.setVm vm) "com/example/orderly_storefront/orderlystorefront/cart/CartException" 31 ∧ Jvm.ConstHeldL (Z.setVm vm) "com/example/orderly_storefront/orderlystorefront/cart/CartExceptionInvalidQuantityPinLaw" 28) U.vm) (fun _ _ _ _ _ => True) (fun _ U o U' => ∃ v L, o = .returned v ∧ (o_Q4_k0 Z a_1 oq fq h0 n0 v U'.heap L ∧ (fun vm : Vm => Jvm.ConstHeldL (Z.setVm vm) "com/example/orderly_storefront/orderlystorefront/cart/CartExceptionInvalidQuantityPinLaw" 28) U'.vm) ∧ ReturnedEndW U o U' L ({ frames := 6, cells := 11, slots := 542, locals := 116 } : Room).cells ({ frames := 6, cells := 11, slots := 542, locals := 116 } : Room).slots) := by
  refine MetFree.of_bodySF (plainFor_of_name o_pn9) hisR ?_
  intro p e s m args below meth c s₁ Bd hml0 hP hK
  obtain ⟨rfl, hZ, hh, ⟨hp0, hp1, hp2⟩⟩ := hP
  have hx := Bd.exec
  have hby := Bd.bytes
  have hml : c.maxLocals = 1 := hml0
  have hown : s.vm.findClass "com/example/orderly_storefront/orderlystorefront/cart/CartException" = some m.cls := findClass_of_methodNamed Bd.named
  have hnm := (name_of_methodNamed Bd.named Bd.method).1
  have X0 : Stand p l e ({ frames := 6, cells := 11, slots := 542, locals := 116 } : Room) s m #[(.ref a_1)] below meth c s₁ [] 0 0 := Stand.of_body Bd
  have e0 : s₁.heap = h0 := by rw [← hh, Bd.state]; rfl
  have N0 := Fr.nil n0
  have B : o_C p c _ := ⟨hx, hby⟩
  have H : o_H s Z m _ c _ := ⟨hZ, hown, hml⟩
  have X0 : Stand p l e ({ frames := 6, cells := 11, slots := 542, locals := 116 } : Room) (s.setVm s.vm) m #[(.ref a_1)] below meth c s₁ [] 0 0 := X0
  have hZ : Z.Warmed39 (s.setVm s.vm).vm := hZ
  have hown : (s.setVm s.vm).vm.findClass "com/example/orderly_storefront/orderlystorefront/cart/CartException" = some m.cls := hown
  have hS0 : s.Since s.vm 0 := (State.WarmedH.refl s).since 0
  have H : o_H _ Z m _ c _ := ⟨hZ, hown, hml⟩
  have z0 : n0 ≤ h0.size := Z0
  have z1 := o_lt j1.lt
  have z2 := o_lt j4.lt
  have K0 : Keep h0 h0 [] := Keep.refl h0 _
  show o_Go p.tables e below (fun t o => t.status = .running ∧ Ended t below o ∧ ∃ v L, o = .returned v ∧ (o_Q4_k0 Z a_1 oq fq h0 n0 v t.heap L ∧ (fun vm : Vm => Jvm.ConstHeldL (Z.setVm vm) "com/example/orderly_storefront/orderlystorefront/cart/CartExceptionInvalidQuantityPinLaw" 28) t.vm) ∧ ReturnedEndW s o t L ({ frames := 6, cells := 11, slots := 542, locals := 116 } : Room).cells ({ frames := 6, cells := 11, slots := 542, locals := 116 } : Room).slots) s₁ (entryFrame m #[(.ref a_1)] 1)
  rw [o_ef_own_rm4_k0 m a_1]
  show o_Go _ _ _ _ s₁ (mkF m 0 #[.val (.ref a_1)] [])
  obtain ⟨T3, h3, X3, e3, E3, A3, D3, Y3, st3⟩ := newO X0 hx hZ hown (o_h hw 26 rfl) (o_w27 hw) (o_w24 hw) e0 (g := (mkF m 0 #[.val (.ref a_1)] [])) rfl (hb hby d4_0) (by decide) (by decide)
  obtain ⟨b3, g3⟩ : ∃ z, z = h0.size := ⟨_, rfl⟩
  rw [← g3] at A3 D3 Y3 st3
  have z4 := E3.1
  have lt_b3 := o_lt A3.lt
  have K3 := K0.ext E3
  have F_cause_b3 : o_F3 Z h3 b3 .null := D3 (Or.inl (o_w177 hw)) (ty := (.object "java/lang/Throwable")) (by decide)
  have F_stackTrace_b3 : o_F4 Z h3 b3 .null := D3 (Or.inl (o_w180 hw)) (ty := (.array (.object "java/lang/StackTraceElement"))) (by decide)
  have F_suppressedExceptions_b3 : o_F5 Z h3 b3 .null := D3 (Or.inl (o_w183 hw)) (ty := (.object "java/util/List")) (by decide)
  have F_detailMessage_b3 : o_F6 Z h3 b3 .null := D3 (Or.inl (o_w185 hw)) (ty := (.object "java/lang/String")) (by decide)
  have F_reason_b3 : o_F7 Z h3 b3 .null := D3 (Or.inr (o_w187 hw)) (ty := (.object "com/example/orderly_storefront/orderlystorefront/cart/CartException$Reason")) (by decide)
  refine o_go st3 ?_
  refine xd X3 B d4_3 rfl ?_
  have f5 := (j0.ext E3)
  refine o_gs X3 B H (o_h hw 28 rfl) e3 f5.2.2.2.2.2.2.2.1 d4_4 fun T6 X6 e6 => ?_
  obtain ⟨T7, h7, X7, e7, E7, A7, D7, Y7, st7⟩ := newO X6 hx hZ hown (o_h hw 31 rfl) (o_w32 hw) (o_w33 hw) e6 (g := (mkF m 7 #[.val (.ref a_1)] [(.ref (o_iq Z)), (.ref b3), (.ref b3)])) rfl (hb hby d4_7) (by decide) (by decide)
  obtain ⟨b7, g7⟩ : ∃ z, z = h3.size := ⟨_, rfl⟩
  rw [← g7] at A7 D7 Y7 st7
  have z8 := E7.1
  have lt_b7 := o_lt A7.lt
  have K7 := K3.ext E7
  have F_value_b7 : o_F8 Z h7 b7 .null := D7 (Or.inl (o_w46 hw)) (ty := (.array .byte)) (by decide)
  have F_coder_b7 : o_F9 Z h7 b7 (.int 0) := D7 (Or.inl (o_w48 hw)) (ty := .byte) (by decide)
  have F_count_b7 : o_F10 Z h7 b7 (.int 0) := D7 (Or.inl (o_w72 hw)) (ty := .int) (by decide)
  have F_maybeLatin1_b7 : o_F11 Z h7 b7 (.int 0) := D7 (Or.inl (o_w269 hw)) (ty := .boolean) (by decide)
  refine o_go st7 ?_
  refine xd X7 B d4_10 rfl ?_
  have f9 := (f5.ext E7)
  refine o_csp (a := b7) X7 B H e7 (o_rm5_s1 (n0 := n0) hw (by omega) b7 (.int 0) (.int 0) (.int 0) .null A7 F_coder_b7 F_count_b7 F_maybeLatin1_b7 F_value_b7 f9 (by omega)) (o_h hw 34 rfl) (o_h hw 35 rfl) (o_w33 hw) (o_h hw 36 rfl) rfl rfl (lenOf o_pd13 rfl) rfl rfl (W := 4) rfl d4_11 (by decide) ?_
  rintro _ T10 L10 X10 ⟨x_11, rfl, N10q, K10q, f12, f13, f14, f15, f16, f17, f18⟩
  have N10 := Fr.app N0 N10q
  have z19 := K10q.1
  have K10 := K7.trans K10q (allS (Or.inr (by omega)) all0)
  have z20 := o_lt f12.lt
  have z21 := o_lt f17.lt
  have hZ22 := hZ
  obtain ⟨b22, c22, T22, h22, k22, X22, e22, E22, hS22, g22, hZ, hown, Li22, Wn22, Hi22, Ex22, Fv22, Fc22, Av22, sp22, st22⟩ := o_ldcC X10 hx hZ hown (o_w49 hw) (o_wS hw) (o_w16 hw) (o_w17 hw) rfl hS0 (by omega) N10 (Or.inl (by rw [hh]; exact Nat.le_of_eq hg_n0.symm)) hp0 (by rw [hh]; exact hold) (bs := o_T62) (z := (62 : Int32)) (by decide +kernel) (fun _ q => o_lb62 q) (by decide +kernel) (by decide) (by decide) (g := (mkF m 14 #[.val (.ref a_1)] [(.ref b7), (.ref (o_iq Z)), (.ref b3), (.ref b3)])) rfl (hb hby d4_14) (n := 248) (by decide +kernel) (by decide) (by decide) (by decide)
  have z23 := E22.1
  rw [hh] at sp22; unfold o_sep at sp22
  have N22 := Fr.nil n0
  have H : o_H _ Z m _ c _ := ⟨hZ, hown, hml⟩
  have Hh24 := o_carry (s := s) hZ22 (o_w121 hw) Wn22 (o_hint (by decide) Hi22) hp1
  have Hh25 := o_carry (s := s) hZ22 (o_w194 hw) Wn22 (o_hint (by decide) Hi22) hp2
  have z26 := o_lt Ex22.lt
  have z27 := o_lt Av22.lt
  have K22 := K10.ext E22
  refine o_go st22 ?_
  have f28 := (f17.ext E22)
  have f29 := (f12.ext E22)
  have f30 := (f13.ext E22)
  have f31 := (f14.ext E22)
  have f32 := (f15.ext E22)
  have f33 := (f16.ext E22)
  have f34 := ((f9.keep K10q (allS (o_exa_plain A7) all0)).ext E22)
  refine o_cvi X22 B H e22 (o_rm7_s1 (n0 := n0) hw (by omega) b7 b22 x_11 c22 (fun _ => 0) (o_ls o_T62) (.int 0) f28 Av22 f29 Ex22 f30 f31 f32 f33 Fc22 Fv22 f34 (o_ne (by omega)) (o_ne (by omega)) (o_ne (by omega)) (by omega)) (o_w50 hw) (o_w52 hw) (o_w33 hw) (o_w54 hw) (o_w51 hw) (o_w53 hw) (o_w53 hw) rfl f29 rfl (lenOf o_pd23 rfl) rfl rfl (W := 3) rfl d4_16 (by decide) ?_
  rintro _ T35 L35 X35 ⟨x_36, rfl, N35q, K35q, f37, f38, f39, f40, f41, f42, f43⟩
  have N35 := Fr.app N22 N35q
  have z44 := K35q.1
  have K35 := K22.trans K35q (allS (Or.inr (by omega)) all0)
  have z45 := o_lt f37.lt
  have z46 := o_lt f42.lt
  refine xa X35 B d4_19 rfl rfl ?_
  have f47 := (((((j4.ext E3).ext E7).keep K10q (ninS (o_ne (by omega)) nin0)).ext E22).keep K35q (ninS (o_ne (by omega)) nin0))
  have f48 := (((((j1.ext E3).ext E7).keep K10q).ext E22).keep K35q)
  have f49 := (((((j3.ext E3).ext E7).keep K10q (ninS (o_ne (by omega)) nin0)).ext E22).keep K35q (ninS (o_ne (by omega)) nin0))
  have f50 := (((((j2.ext E3).ext E7).keep K10q (ninS (o_ne (by omega)) nin0)).ext E22).keep K35q (ninS (o_ne (by omega)) nin0))
  have f51 := (f34.keep K35q (allS (o_exa_plain f29) all0))
  refine o_cvi X35 B H rfl (o_rm7_s2 (n0 := n0) hw (by omega) b7 a_1 x_36 oq (o_cpi (o_ls o_T62) 0 (o_cpi (fun _ => 0) 0 (fun _ => 0) 0 16) 0 62) fq (.int 0) f42 f47 f37 f48 f38 f39 f40 f41 f49 f50 f51 (o_ne (by omega)) (o_ne (by omega)) (o_ne (by omega)) (o_ne (by omega)) (o_ne (by omega)) (by omega) (by omega)) (o_w50 hw) (o_w52 hw) (o_w33 hw) (o_w54 hw) (o_w51 hw) (o_w53 hw) (o_w53 hw) rfl f37 rfl (lenOf o_pd23 rfl) rfl rfl (W := 3) rfl d4_20 (by decide) ?_
  rintro _ T52 L52 X52 ⟨rfl, N52q, K52q, f53, f54, f55, f56, f57, f58⟩
  have N52 := Fr.app N35 N52q
  have z59 := K52q.1
  have K52 := K35.trans K52q (allS (Or.inr (by omega)) (allS (Or.inr (by omega)) all0))
  have z60 := o_lt f53.lt
  have z61 := o_lt f54.lt
  have hZ62 := hZ
  obtain ⟨b62, c62, T62, h62, k62, X62, e62, E62, hS62, g62, hZ, hown, Li62, Wn62, Hi62, Ex62, Fv62, Fc62, Av62, sp62, st62⟩ := o_ldcC X52 hx hZ hown (o_w121 hw) (o_wS hw) (o_w16 hw) (o_w17 hw) rfl hS22 (by omega) N52 (Or.inl (by rw [hh]; exact Nat.le_of_eq hg_n0.symm)) Hh24 (by rw [hh]; exact hold) (bs := [46]) (z := (1 : Int32)) (by decide +kernel) (fun _ q => o_lb1 q) (by decide +kernel) (by decide) (by decide) (g := (mkF m 23 #[.val (.ref a_1)] [(.ref b7), (.ref (o_iq Z)), (.ref b3), (.ref b3)])) rfl (hb hby d4_23) (n := 4) (by decide +kernel) (by decide) (by decide) (by decide)
  have z63 := E62.1
  rw [hh] at sp62; unfold o_sep at sp62
  have N62 := Fr.nil n0
  have H : o_H _ Z m _ c _ := ⟨hZ, hown, hml⟩
  have Li64 := Li22.stays Wn62
  have Hh65 := o_carry (s := s) hZ62 (o_w194 hw) Wn62 (o_hint (by decide) Hi62) Hh25
  have z66 := o_lt Ex62.lt
  have z67 := o_lt Av62.lt
  have K62 := K52.ext E62
  refine o_go st62 ?_
  have f68 := (f53.ext E62)
  have f69 := (f54.ext E62)
  have f70 := (f55.ext E62)
  have f71 := (f56.ext E62)
  have f72 := (f57.ext E62)
  have f73 := (f58.ext E62)
  have f74 := ((f51.keep K52q (allS (o_AV.plain f42) (allS (o_exa_plain f37) all0))).ext E62)
  refine o_cvi X62 B H e62 (o_rm7_s3 (n0 := n0) hw (by omega) b7 b62 x_36 c62 (o_cpi fq 0 (o_cpi (o_ls o_T62) 0 (o_cpi (fun _ => 0) 0 (fun _ => 0) 0 16) 0 62) 62 0) (o_ls [46]) (.int 0) f68 Av62 f69 Ex62 f70 f71 f72 f73 Fc62 Fv62 f74 (o_ne (by omega)) (o_ne (by omega)) (o_ne (by omega)) (by omega)) (o_w50 hw) (o_w52 hw) (o_w33 hw) (o_w54 hw) (o_w51 hw) (o_w53 hw) (o_w53 hw) rfl f69 rfl (lenOf o_pd23 rfl) rfl rfl (W := 3) rfl d4_25 (by decide) ?_
  rintro _ T75 L75 X75 ⟨x_76, rfl, N75q, K75q, f77, f78, f79, f80, f81, f82, f83⟩
  have N75 := Fr.app N62 N75q
  have z84 := K75q.1
  have K75 := K62.trans K75q (allS (Or.inr (by omega)) all0)
  have z85 := o_lt f77.lt
  have z86 := o_lt f82.lt
  have f87 := (f74.keep K75q (allS (o_exa_plain f69) all0))
  refine o_cvi X75 B H rfl (o_rm20_s1 (n0 := n0) hw (by omega) b7 x_76 (o_cpi (o_ls [46]) 0 (o_cpi (o_cpi fq 0 (o_cpi (o_ls o_T62) 0 (o_cpi (fun _ => 0) 0 (fun _ => 0) 0 16) 0 62) 62 0) 0 (fun _ => 0) 0 62) 62 1) f82 f77 f78 f79 f81 f87) (o_h hw 122 rfl) (o_h hw 124 rfl) (o_w33 hw) (o_h hw 126 rfl) (o_h hw 123 rfl) (o_h hw 125 rfl) (o_h hw 125 rfl) rfl f77 rfl (lenOf o_pd30 rfl) rfl rfl (W := 3) rfl d4_28 (by decide) ?_
  rintro _ T88 L88 X88 ⟨x_89, x_90, rfl, N88q, K88q, f91, f92, f93, f94, f95, f96, f97⟩
  have N88 := Fr.app N75 N88q
  have z98 := K88q.1
  have K88 := K75.trans K88q all0
  have z99 := o_lt f91.lt
  have z100 := o_lt f94.lt
  simp only [o_lts, and_true] at f97
  have f101 := ((((((((A3.ext E7).keep K10q).ext E22).keep K35q).keep K52q).ext E62).keep K75q).keep K88q)
  have f102 := ((((((((F_cause_b3.ext E7).keep K10q (ninS (o_ne (by omega)) nin0)).ext E22).keep K35q (ninS (o_ne (by omega)) nin0)).keep K52q (ninS (o_ne (by omega)) (ninS (o_ne (by omega)) nin0))).ext E62).keep K75q (ninS (o_ne (by omega)) nin0)).keep K88q nin0)
  have f103 := ((((((((F_detailMessage_b3.ext E7).keep K10q (ninS (o_ne (by omega)) nin0)).ext E22).keep K35q (ninS (o_ne (by omega)) nin0)).keep K52q (ninS (o_ne (by omega)) (ninS (o_ne (by omega)) nin0))).ext E62).keep K75q (ninS (o_ne (by omega)) nin0)).keep K88q nin0)
  have f104 := ((((((((F_reason_b3.ext E7).keep K10q (ninS (o_ne (by omega)) nin0)).ext E22).keep K35q (ninS (o_ne (by omega)) nin0)).keep K52q (ninS (o_ne (by omega)) (ninS (o_ne (by omega)) nin0))).ext E62).keep K75q (ninS (o_ne (by omega)) nin0)).keep K88q nin0)
  have f105 := ((((((((F_stackTrace_b3.ext E7).keep K10q (ninS (o_ne (by omega)) nin0)).ext E22).keep K35q (ninS (o_ne (by omega)) nin0)).keep K52q (ninS (o_ne (by omega)) (ninS (o_ne (by omega)) nin0))).ext E62).keep K75q (ninS (o_ne (by omega)) nin0)).keep K88q nin0)
  have f106 := ((((((((F_suppressedExceptions_b3.ext E7).keep K10q (ninS (o_ne (by omega)) nin0)).ext E22).keep K35q (ninS (o_ne (by omega)) nin0)).keep K52q (ninS (o_ne (by omega)) (ninS (o_ne (by omega)) nin0))).ext E62).keep K75q (ninS (o_ne (by omega)) nin0)).keep K88q nin0)
  have f107 := (f87.keep K88q all0)
  refine o_csp (a := b3) X88 B H rfl (o_rm30_s1 (n0 := n0) hw (by omega) b3 (o_iq Z) x_89 .null .null .null .null .null f101 f102 f103 f104 f105 f106 f107 (by omega)) (o_h hw 161 rfl) (o_h hw 162 rfl) (o_w24 hw) (o_h hw 163 rfl) rfl rfl (lenOf o_pd32 rfl) rfl rfl (W := 1) rfl d4_31 (by decide) ?_
  rintro _ T108 L108 X108 ⟨rfl, N108q, K108q, f109, f110, f111, f112, f113, f114⟩
  have N108 := Fr.app N88 N108q
  have z115 := K108q.1
  have K108 := K88.trans K108q (allS (Or.inr (by omega)) all0)
  have z116 := o_lt f109.lt
  obtain ⟨fs, hr, hrun, hended, hRW⟩ := X108.leaveW hS62 (by omega) (v := some (.ref b3)) (fun h => by rw [Bd.returns] at h; cases h)
  refine ⟨_, _, retOut X108 hx Bd.returns rfl (Or.inr (Or.inr (Or.inr (Or.inr ⟨rfl, rfl, rfl⟩)))) (hb hby d4_34) hr, hrun, hended, _, _, rfl, ?_, o_monoW hRW (by decide) (by decide)⟩
  refine ⟨?_, o_carryH hZ (o_w194 hw) X108.warmed Hh65⟩
  have f118 := (f91.keep K108q)
  have f119 := (f92.keep K108q (ninS (o_ne (by omega)) nin0))
  have f120 := (f93.keep K108q (ninS (o_ne (by omega)) nin0))
  have f121 := (f94.keep K108q (ninS (o_ne (by omega)) nin0))
  exact ⟨b3, x_89, x_90, rfl, N108, K108, f109, f110, f111, f112, f113, f114, f118, f119, f120, f121, (by omega), (by omega), (by omega), (by simp only [o_lts, and_true]; omega)⟩
theorem o_rm11_s4 (hw : o_T Z a0) (Z0 : n0 ≤ h0.size) (a_1 ob0 : Addr) (fa_ob0 : Nat → Int32) (j0 : o_AV Z h0 ob0 .byte (126 : Int32) (o_by fa_ob0)) (j1 : o_F9 Z h0 a_1 (.int 0)) (j2 : o_F8 Z h0 a_1 (.ref ob0)) :
    M11' l Z (o_rm 0 0 0 0) #[(.ref a_1), (.int 64)] h0 (fun v h L => v = none ∧ Fr n0 L ∧ h = h0) := by
  refine o_start (plainFor_of_name o_pn3) (L0 := #[.val (.ref a_1), .val (.int 64), .unset]) (fun _ => rfl) fun p e s m below meth c s₁ hx hby hml hown hnm hret hZ X0 e0 B H => ?_
  have N0 := Fr.nil n0
  have z0 : n0 ≤ h0.size := Z0
  have z1 := o_lt j0.lt
  have z2 := o_lt j1.lt
  refine xa X0 B d11_0 rfl rfl ?_
  refine o_gf X0 B H (o_w45 hw) e0 j2 d11_1 fun T3 X3 e3 => ?_
  refine xl X3 B H e3 j0 d11_4 ?_
  refine xa X3 B d11_5 rfl rfl ?_
  refine o_gf X3 B H (o_w47 hw) e3 j1 d11_6 fun T4 X4 e4 => ?_
  refine xshr X4 B d11_9 (126) rfl ?_
  refine xs X4 B d11_10 (l' := #[.val (.ref a_1), .val (.int 64), .val (.int 126)]) rfl ?_
  refine xi X4 B d11_11 rfl ?_
  refine xi X4 B d11_12 rfl ?_
  refine xsub X4 B d11_13 (-62) rfl ?_
  have hc5 : ¬ (0 < (-62 : Int32)) := by decide
  refine xy X4 B 14 38 rfl d11_14 (XT.i0_le_t hc5) (by decide) ?_
  exact o_retV X4 B hret d11_38 (by decide) e4 ⟨rfl, N0, rfl⟩
theorem o_rm19_s4 (hw : o_T Z a0) (Z0 : n0 ≤ h0.size) (a_1 a_2 ob0 : Addr) (fa_a_2 fa_ob0 : Nat → Int32) (j0 : o_AV Z h0 a_2 .byte (126 : Int32) (o_by fa_a_2)) (j1 : o_AV Z h0 ob0 .byte (1 : Int32) (o_by fa_ob0)) (j2 : o_E0 Z h0 a_1) (j3 : o_F1 Z h0 a_1 (.int 0)) (j4 : o_F2 Z h0 a_1 (.ref ob0)) (j5 : o_G Z h0) (hd_a_1_a_2 : o_df a_1 a_2) (hd_a_2_ob0 : o_df a_2 ob0) (gw_a_2 : n0 ≤ a_2) :
    M19' l Z (o_rm 1 0 0 40) #[(.ref a_1), (.ref a_2), (.int 63), (.int 0)] h0 (fun v h L => v = none ∧ Fr n0 L ∧ Keep h0 h [a_2] ∧ o_AV Z h a_2 .byte (126 : Int32) (o_by (o_cpi fa_ob0 0 fa_a_2 63 1))) := by
  refine o_start (plainFor_of_name o_pn2) (L0 := #[.val (.ref a_1), .val (.ref a_2), .val (.int 63), .val (.int 0)]) (fun _ => rfl) fun p e s m below meth c s₁ hx hby hml hown hnm hret hZ X0 e0 B H => ?_
  have N0 := Fr.nil n0
  have z0 : n0 ≤ h0.size := Z0
  have z1 := o_lt j0.lt
  have z2 := o_lt j1.lt
  have z3 := o_lt j2.lt
  have K0 : Keep h0 h0 [a_2] := Keep.refl h0 _
  refine xa X0 B d19_0 rfl rfl ?_
  refine o_cvi X0 B H e0 (o_rm10_s1 (n0 := n0) hw (by omega) a_1  j3 j5) (o_w65 hw) (o_w67 hw) (o_w2 hw) (o_w69 hw) (o_w66 hw) (o_w68 hw) (o_w68 hw) rfl j2 rfl (lenOf o_pd14 rfl) rfl rfl (W := 0) rfl d19_1 (by decide) ?_
  rintro _ T4 L4 X4 ⟨rfl, N4q, e4⟩
  have N4 := Fr.app N0 N4q
  refine xi X4 B d19_4 rfl ?_
  have hc5 : (0 : Int32) = (0 : Int32) := by decide
  refine xm X4 B d19_5 (XT.ii_ne_f hc5) ?_
  refine xa X4 B d19_8 rfl rfl ?_
  refine o_gf X4 B H (o_w20 hw) e4 j4 d19_9 fun T6 X6 e6 => ?_
  refine xc X6 B d19_12 0 rfl ?_
  refine xa X6 B d19_13 rfl rfl ?_
  refine xi X6 B d19_14 rfl ?_
  refine xi X6 B d19_15 rfl ?_
  refine xshl X6 B d19_16 (63) rfl ?_
  refine xa X6 B d19_17 rfl rfl ?_
  refine o_gf X6 B H (o_w20 hw) e6 j4 d19_18 fun T7 X7 e7 => ?_
  refine xl X7 B H e7 j1 d19_21 ?_
  obtain ⟨T8, h8, L8, X8, e8, N8, Kq8, V8, st8⟩ := o_cpB X7 hx hZ hown (o_h hw 120 rfl) (o_w103 hw) (o_w101 hw) (o_w102 hw) e7 j1 j0 (sp' := 0) (dp' := 63) (nn' := 1) (by decide) (by decide) (by decide) (by decide) (by decide) (by decide) (by decide) (by decide) N4 (by omega) (g := (mkF m 22 #[.val (.ref a_1), .val (.ref a_2), .val (.int 63), .val (.int 0)] [(.int 1), (.int 63), (.ref a_2), (.int 0), (.ref ob0)])) rfl (by rw [hml]; rfl) rfl (hb hby d19_22) (by decide) (W := 0) (by show 2 * 0 + _ ≤ _; exact Nat.le_of_eq rfl) (by decide)
  have z9 := Kq8.1
  have K8 := K0.trans Kq8 (allS (Or.inl o_m0) all0)
  refine o_go st8 ?_
  refine xg X8 B 25 43 rfl d19_25 (by decide) ?_
  exact o_retV X8 B hret d19_43 (by decide) e8 ⟨rfl, N8, K8, V8⟩
theorem o_rm17_s4 (hw : o_T Z a0) (Z0 : n0 ≤ h0.size) (a_1 a_3 ob0 ob1 : Addr) (fa_ob0 fa_ob1 : Nat → Int32) (j0 : o_AV Z h0 ob0 .byte (126 : Int32) (o_by fa_ob0)) (j1 : o_AV Z h0 ob1 .byte (1 : Int32) (o_by fa_ob1)) (j2 : o_E12 Z h0 a_1) (j3 : o_E0 Z h0 a_3) (j4 : o_F9 Z h0 a_1 (.int 0)) (j5 : o_F8 Z h0 a_1 (.ref ob0)) (j6 : o_F1 Z h0 a_3 (.int 0)) (j7 : o_F2 Z h0 a_3 (.ref ob1)) (j8 : o_G Z h0) (hd_a_1_ob0 : o_df a_1 ob0) (hd_a_3_ob0 : o_df a_3 ob0) (hd_ob0_ob1 : o_df ob0 ob1) (gw_ob0 : n0 ≤ ob0) :
    M17' l Z (o_rm 2 0 0 55) #[(.ref a_1), (.int 63), (.ref a_3)] h0 (fun v h L => v = none ∧ Fr n0 L ∧ Keep h0 h [ob0] ∧ o_AV Z h ob0 .byte (126 : Int32) (o_by (o_cpi fa_ob1 0 fa_ob0 63 1))) := by
  refine o_start (plainFor_of_name o_pn3) (L0 := #[.val (.ref a_1), .val (.int 63), .val (.ref a_3)]) (fun _ => rfl) fun p e s m below meth c s₁ hx hby hml hown hnm hret hZ X0 e0 B H => ?_
  have N0 := Fr.nil n0
  have z0 : n0 ≤ h0.size := Z0
  have z1 := o_lt j0.lt
  have z2 := o_lt j1.lt
  have z3 := o_lt j2.lt
  have z4 := o_lt j3.lt
  have K0 : Keep h0 h0 [ob0] := Keep.refl h0 _
  refine xa X0 B d17_0 rfl rfl ?_
  refine xa X0 B d17_1 rfl rfl ?_
  refine o_cpr X0 B H e0 (o_rm18_s1 (n0 := n0) hw (by omega) a_1 a_3  j3 j4 j6 j8) (o_h hw 109 rfl) (o_w110 hw) (o_w41 hw) (o_h hw 113 rfl) (o_h hw 112 rfl) (o_w111 hw) j2 rfl (lenOf o_pd19 rfl) rfl rfl (W := 0) rfl d17_2 (by decide) ?_
  rintro _ T5 L5 X5 ⟨rfl, N5q, e5⟩
  have N5 := Fr.app N0 N5q
  refine xa X5 B d17_5 rfl rfl ?_
  refine xa X5 B d17_6 rfl rfl ?_
  refine o_gf X5 B H (o_w45 hw) e5 j5 d17_7 fun T6 X6 e6 => ?_
  refine xi X6 B d17_10 rfl ?_
  refine xa X6 B d17_11 rfl rfl ?_
  refine o_gf X6 B H (o_w47 hw) e6 j4 d17_12 fun T7 X7 e7 => ?_
  refine o_cvi X7 B H e7 (o_rm19_s4 (n0 := n0) hw (by omega) a_3 ob0 ob1 fa_ob0 fa_ob1 j0 j1 j3 j6 j7 j8 hd_a_3_ob0 hd_ob0_ob1 (by omega)) (o_w115 hw) (o_w117 hw) (o_w2 hw) (o_h hw 119 rfl) (o_w116 hw) (o_w118 hw) (o_w118 hw) rfl j3 rfl (lenOf o_pd20 rfl) rfl rfl (W := 0) rfl d17_15 (by decide) ?_
  rintro _ T8 L8 X8 ⟨rfl, N8q, K8q, f9⟩
  have N8 := Fr.app N5 N8q
  have z10 := K8q.1
  have K8 := K0.trans K8q (allS (Or.inl o_m0) all0)
  have z11 := o_lt f9.lt
  exact o_retV X8 B hret d17_18 (by decide) rfl ⟨rfl, N8, K8, f9⟩
theorem o_rm8_s4 (hw : o_T Z a0) (Z0 : n0 ≤ h0.size) (a_1 a_2 ob0 ob1 : Addr) (fa_ob0 fa_ob1 : Nat → Int32) (u_0 : Value) (j0 : o_AV Z h0 ob0 .byte (126 : Int32) (o_by fa_ob0)) (j1 : o_AV Z h0 ob1 .byte (1 : Int32) (o_by fa_ob1)) (j2 : o_E12 Z h0 a_1) (j3 : o_E0 Z h0 a_2) (j4 : o_F9 Z h0 a_1 (.int 0)) (j5 : o_F10 Z h0 a_1 (.int 63)) (j6 : o_F11 Z h0 a_1 u_0) (j7 : o_F8 Z h0 a_1 (.ref ob0)) (j8 : o_F1 Z h0 a_2 (.int 0)) (j9 : o_F2 Z h0 a_2 (.ref ob1)) (j10 : o_G Z h0) (hd_a_1_a_2 : o_df a_1 a_2) (hd_a_1_ob0 : o_df a_1 ob0) (hd_a_1_ob1 : o_df a_1 ob1) (hd_a_2_ob0 : o_df a_2 ob0) (hd_ob0_ob1 : o_df ob0 ob1) (gw_ob0 : n0 ≤ ob0) (gw_a_1 : n0 ≤ a_1) :
    M8' l Z (o_rm 3 0 0 69) #[(.ref a_1), (.ref a_2)] h0 (fun v h L => v = some (.ref a_1) ∧ Fr n0 L ∧ Keep h0 h [ob0, a_1] ∧ o_AV Z h ob0 .byte (126 : Int32) (o_by (o_cpi fa_ob1 0 fa_ob0 63 1)) ∧ o_E12 Z h a_1 ∧ o_F9 Z h a_1 (.int 0) ∧ o_F10 Z h a_1 (.int 64) ∧ o_F11 Z h a_1 u_0 ∧ o_F8 Z h a_1 (.ref ob0)) := by
  refine o_start (plainFor_of_name o_pn3) (L0 := #[.val (.ref a_1), .val (.ref a_2), .unset]) (fun _ => rfl) fun p e s m below meth c s₁ hx hby hml hown hnm hret hZ X0 e0 B H => ?_
  have N0 := Fr.nil n0
  have z0 : n0 ≤ h0.size := Z0
  have z1 := o_lt j0.lt
  have z2 := o_lt j1.lt
  have z3 := o_lt j2.lt
  have z4 := o_lt j3.lt
  have K0 : Keep h0 h0 [ob0, a_1] := Keep.refl h0 _
  refine xa X0 B d8_0 rfl rfl ?_
  refine xN X0 B 1 9 rfl d8_1 (by decide) ?_
  refine xa X0 B d8_9 rfl rfl ?_
  refine o_cvi X0 B H e0 (o_rm9_s3 (n0 := n0) hw (by omega) a_2 ob1 fa_ob1 j1 j3 j8 j9 j10) (o_w60 hw) (o_w62 hw) (o_w2 hw) (o_h hw 64 rfl) (o_w61 hw) (o_w63 hw) (o_w63 hw) rfl j3 rfl (lenOf o_pd15 rfl) rfl rfl (W := 0) rfl d8_10 (by decide) ?_
  rintro _ T5 L5 X5 ⟨rfl, N5q, e5⟩
  have N5 := Fr.app N0 N5q
  refine xs X5 B d8_13 (l' := #[.val (.ref a_1), .val (.ref a_2), .val (.int 1)]) rfl ?_
  refine xa X5 B d8_14 rfl rfl ?_
  refine xa X5 B d8_15 rfl rfl ?_
  refine o_gf X5 B H (o_w71 hw) e5 j5 d8_16 fun T6 X6 e6 => ?_
  refine xi X6 B d8_19 rfl ?_
  refine xadd X6 B d8_20 (64) rfl ?_
  refine o_cpr X6 B H e6 (o_rm11_s4 (n0 := n0) hw (by omega) a_1 ob0 fa_ob0 j0 j4 j7) (o_h hw 73 rfl) (o_w74 hw) (o_w41 hw) (o_h hw 77 rfl) (o_w76 hw) (o_w75 hw) j2 rfl (lenOf o_pd12 rfl) rfl rfl (W := 0) rfl d8_21 (by decide) ?_
  rintro _ T7 L7 X7 ⟨rfl, N7q, e7⟩
  have N7 := Fr.app N5 N7q
  refine xa X7 B d8_24 rfl rfl ?_
  refine xa X7 B d8_25 rfl rfl ?_
  refine o_gf X7 B H (o_w71 hw) e7 j5 d8_26 fun T8 X8 e8 => ?_
  refine xa X8 B d8_29 rfl rfl ?_
  refine o_cpr X8 B H e8 (o_rm17_s4 (n0 := n0) hw (by omega) a_1 a_2 ob0 ob1 fa_ob0 fa_ob1 j0 j1 j2 j3 j4 j7 j8 j9 j10 hd_a_1_ob0 hd_a_2_ob0 hd_ob0_ob1 (by omega)) (o_h hw 104 rfl) (o_w105 hw) (o_w41 hw) (o_h hw 108 rfl) (o_h hw 107 rfl) (o_w106 hw) j2 rfl (lenOf o_pd21 rfl) rfl rfl (W := 0) rfl d8_30 (by decide) ?_
  rintro _ T9 L9 X9 ⟨rfl, N9q, K9q, f10⟩
  have N9 := Fr.app N7 N9q
  have z11 := K9q.1
  have K9 := K0.trans K9q (allS (Or.inl o_m0) all0)
  have z12 := o_lt f10.lt
  refine xa X9 B d8_33 rfl rfl ?_
  refine xd X9 B d8_34 rfl ?_
  have f13 := (j5.keep K9q (ninS hd_a_1_ob0 nin0))
  refine o_gf X9 B H (o_w71 hw) rfl f13 d8_35 fun T14 X14 e14 => ?_
  refine xi X14 B d8_38 rfl ?_
  refine xadd X14 B d8_39 (64) rfl ?_
  have f15 := (j2.keep K9q)
  obtain ⟨T16, h16, X16, e16, W16, st16⟩ := putF X14 hx hZ hown (host := "") (Or.inl (o_w71 hw)) Via.refl e14 f13 f15 (Or.inl (o_w72 hw)) (o_w32 hw) (ty := .int) (by decide) rfl rfl (g := (mkF m 40 #[.val (.ref a_1), .val (.ref a_2), .val (.int 1)] [(.int 64), (.ref a_1)])) rfl rfl (hb hby d8_40)
  have z17 := W16.size
  have K16 := K9.wr W16 (Or.inl (List.mem_of_getElem? (i := 1) rfl))
  have N16 := Fr.snoc X16 N9 (by omega : n0 ≤ a_1)
  have Fw16 : o_F10 Z h16 a_1 (.int 64) := Fld.same W16 f13
  refine o_go st16 ?_
  refine xa X16 B d8_43 rfl rfl ?_
  have f19 := (f10.other W16 hd_a_1_ob0.sym)
  have f20 := (f15.wr W16)
  have f21 := ((j4.keep K9q (ninS hd_a_1_ob0 nin0)).other W16 (Or.inr (slot_ne (Or.inl (o_w48 hw)) (Or.inl (o_w72 hw)) (by decide) (t := .byte) (t' := .int) (by decide) (by decide))))
  have f22 := ((j6.keep K9q (ninS hd_a_1_ob0 nin0)).other W16 (Or.inr (slot_ne (Or.inl (o_w269 hw)) (Or.inl (o_w72 hw)) (by decide) (t := .boolean) (t' := .int) (by decide) (by decide))))
  have f23 := ((j7.keep K9q (ninS hd_a_1_ob0 nin0)).other W16 (Or.inr (slot_ne (Or.inl (o_w46 hw)) (Or.inl (o_w72 hw)) (by decide) (t := (.array .byte)) (t' := .int) (by decide) (by decide))))
  exact o_retA X16 B hret rfl rfl rfl d8_44 (by decide) e16 ⟨rfl, N16, K16, f19, f20, f21, Fw16, f22, f23⟩
theorem o_rm7_s4 (hw : o_T Z a0) (Z0 : n0 ≤ h0.size) (a_1 a_2 ob0 ob1 : Addr) (fa_ob0 fa_ob1 : Nat → Int32) (u_0 : Value) (j0 : o_AV Z h0 ob0 .byte (126 : Int32) (o_by fa_ob0)) (j1 : o_AV Z h0 ob1 .byte (1 : Int32) (o_by fa_ob1)) (j2 : o_E12 Z h0 a_1) (j3 : o_E0 Z h0 a_2) (j4 : o_F9 Z h0 a_1 (.int 0)) (j5 : o_F10 Z h0 a_1 (.int 63)) (j6 : o_F11 Z h0 a_1 u_0) (j7 : o_F8 Z h0 a_1 (.ref ob0)) (j8 : o_F1 Z h0 a_2 (.int 0)) (j9 : o_F2 Z h0 a_2 (.ref ob1)) (j10 : o_G Z h0) (hd_a_1_a_2 : o_df a_1 a_2) (hd_a_1_ob0 : o_df a_1 ob0) (hd_a_1_ob1 : o_df a_1 ob1) (hd_a_2_ob0 : o_df a_2 ob0) (hd_ob0_ob1 : o_df ob0 ob1) (gw_ob0 : n0 ≤ ob0) (gw_a_1 : n0 ≤ a_1) :
    M7' l Z (o_rm 4 0 0 83) #[(.ref a_1), (.ref a_2)] h0 (fun v h L => v = some (.ref a_1) ∧ Fr n0 L ∧ Keep h0 h [ob0, a_1] ∧ o_AV Z h ob0 .byte (126 : Int32) (o_by (o_cpi fa_ob1 0 fa_ob0 63 1)) ∧ o_E12 Z h a_1 ∧ o_F9 Z h a_1 (.int 0) ∧ o_F10 Z h a_1 (.int 64) ∧ o_F11 Z h a_1 u_0 ∧ o_F8 Z h a_1 (.ref ob0)) := by
  refine o_start (plainFor_of_name o_pn4) (L0 := #[.val (.ref a_1), .val (.ref a_2)]) (fun _ => rfl) fun p e s m below meth c s₁ hx hby hml hown hnm hret hZ X0 e0 B H => ?_
  have N0 := Fr.nil n0
  have z0 : n0 ≤ h0.size := Z0
  have z1 := o_lt j0.lt
  have z2 := o_lt j1.lt
  have z3 := o_lt j2.lt
  have z4 := o_lt j3.lt
  have K0 : Keep h0 h0 [ob0, a_1] := Keep.refl h0 _
  refine xa X0 B d7_0 rfl rfl ?_
  refine xa X0 B d7_1 rfl rfl ?_
  refine o_csu X0 B H e0 (o_rm8_s4 (n0 := n0) hw (by omega) a_1 a_2 ob0 ob1 fa_ob0 fa_ob1 u_0 j0 j1 j2 j3 j4 j5 j6 j7 j8 j9 j10 hd_a_1_a_2 hd_a_1_ob0 hd_a_1_ob1 hd_a_2_ob0 hd_ob0_ob1 (by omega) (by omega)) (o_h hw 55 rfl) (o_h hw 56 rfl) (o_w41 hw) (o_h hw 59 rfl) (o_w58 hw) (o_w76 hw) rfl (o_w57 hw) j2 (by decide) rfl (lenOf o_pd22 rfl) rfl rfl (W := 0) rfl d7_2 (by decide) ?_
  rintro _ T5 L5 X5 ⟨rfl, N5q, K5q, f6, f7, f8, f9, f10, f11⟩
  have N5 := Fr.app N0 N5q
  have z12 := K5q.1
  have K5 := K0.trans K5q (allS (Or.inl o_m0) (allS (Or.inl (List.mem_of_getElem? (i := 1) rfl)) all0))
  have z13 := o_lt f6.lt
  have z14 := o_lt f7.lt
  refine xp X5 B d7_5 rfl ?_
  refine xa X5 B d7_6 rfl rfl ?_
  exact o_retA X5 B hret rfl rfl rfl d7_7 (by decide) rfl ⟨rfl, N5, K5, f6, f7, f8, f9, f10, f11⟩
theorem o_rm25_s2 (hw : o_T Z a0) (Z0 : n0 ≤ h0.size) (a_1 : Addr) (j0 : o_F10 Z h0 a_1 (.int 64)) :
    M25' l Z (o_rm 0 0 0 0) #[(.ref a_1)] h0 (fun v h L => v = some (.int 64) ∧ Fr n0 L ∧ h = h0) := by
  refine o_start (plainFor_of_name o_pn3) (L0 := #[.val (.ref a_1)]) (fun _ => rfl) fun p e s m below meth c s₁ hx hby hml hown hnm hret hZ X0 e0 B H => ?_
  have N0 := Fr.nil n0
  have z0 : n0 ≤ h0.size := Z0
  have z1 := o_lt j0.lt
  refine xa X0 B d25_0 rfl rfl ?_
  refine o_gf X0 B H (o_w71 hw) e0 j0 d25_1 fun T2 X2 e2 => ?_
  exact o_retI X2 B hret (Or.inl rfl) rfl d25_4 (by decide) e2 ⟨rfl, N0, rfl⟩
theorem o_rm24_s2 (hw : o_T Z a0) (Z0 : n0 ≤ h0.size) (a_1 : Addr) (j0 : o_E12 Z h0 a_1) (j1 : o_F10 Z h0 a_1 (.int 64)) :
    M24' l Z (o_rm 1 0 0 12) #[(.ref a_1)] h0 (fun v h L => v = some (.int 64) ∧ Fr n0 L ∧ h = h0) := by
  refine o_start (plainFor_of_name o_pn4) (L0 := #[.val (.ref a_1)]) (fun _ => rfl) fun p e s m below meth c s₁ hx hby hml hown hnm hret hZ X0 e0 B H => ?_
  have N0 := Fr.nil n0
  have z0 : n0 ≤ h0.size := Z0
  have z1 := o_lt j0.lt
  refine xa X0 B d24_0 rfl rfl ?_
  refine o_csu X0 B H e0 (o_rm25_s2 (n0 := n0) hw (by omega) a_1  j1) (o_h hw 145 rfl) (o_h hw 141 rfl) (o_w41 hw) (o_h hw 146 rfl) (o_h hw 140 rfl) (o_w76 hw) rfl (o_w57 hw) j0 (by decide) rfl (lenOf o_pd15 rfl) rfl rfl (W := 0) rfl d24_1 (by decide) ?_
  rintro _ T2 L2 X2 ⟨rfl, N2q, e2⟩
  have N2 := Fr.app N0 N2q
  exact o_retI X2 B hret (Or.inl rfl) rfl d24_4 (by decide) e2 ⟨rfl, N2, rfl⟩
theorem o_rm29_s2 (hw : o_T Z a0) (Z0 : n0 ≤ h0.size) :
    M29' l Z (o_rm 0 0 0 0) #[(.int 0), (.int 64)] h0 (fun v h L => v = none ∧ Fr n0 L ∧ h = h0) := by
  refine o_start (plainFor_of_name o_pn6) (L0 := #[.val (.int 0), .val (.int 64)]) (fun _ => rfl) fun p e s m below meth c s₁ hx hby hml hown hnm hret hZ X0 e0 B H => ?_
  have N0 := Fr.nil n0
  have z0 : n0 ≤ h0.size := Z0
  refine xi X0 B d29_0 rfl ?_
  refine xi X0 B d29_1 rfl ?_
  have hc1 : ¬ ((64 : Int32) < (0 : Int32)) := by decide
  refine xM X0 B 2 37 rfl d29_2 (XT.ii_ge_t hc1) (by decide) ?_
  exact o_retV X0 B hret d29_37 (by decide) e0 ⟨rfl, N0, rfl⟩
theorem o_rm16_s4 (hw : o_T Z a0) (Z0 : n0 ≤ h0.size) :
    M16' l Z (o_rm 0 0 0 0) #[(.int 126), (.int 64)] h0 (fun v h L => v = some (.int 64) ∧ Fr n0 L ∧ h = h0) := by
  refine o_start (Jvm.Free.JP.mathPlain rfl (by decide +kernel)) (L0 := #[.val (.int 126), .val (.int 64)]) (fun _ => rfl) fun p e s m below meth c s₁ hx hby hml hown hnm hret hZ X0 e0 B H => ?_
  have N0 := Fr.nil n0
  have z0 : n0 ≤ h0.size := Z0
  refine xi X0 B d16_0 rfl ?_
  refine xi X0 B d16_1 rfl ?_
  have hc1 : (64 : Int32) < (126 : Int32) := by decide
  refine xM X0 B 2 9 rfl d16_2 (XT.ii_gt_t hc1) (by decide) ?_
  refine xi X0 B d16_9 rfl ?_
  exact o_retI X0 B hret (Or.inl rfl) rfl d16_10 (by decide) e0 ⟨rfl, N0, rfl⟩
theorem o_rm28_s2 (hw : o_T Z a0) (Z0 : n0 ≤ h0.size) (a_1 : Addr) (fa_a_1 : Nat → Int32) (j0 : o_AV Z h0 a_1 .byte (126 : Int32) (o_by fa_a_1)) :
    M28' l Z (o_rm 1 1 64 40) #[(.ref a_1), (.int 0), (.int 64)] h0 (fun v h L => ∃ (x_0 : Addr), v = some (.ref x_0) ∧ Fr n0 L ∧ Keep h0 h [] ∧ o_AV Z h x_0 .byte (64 : Int32) (o_by (o_cpi fa_a_1 0 (fun _ => 0) 0 64)) ∧ (h0.size ≤ x_0)) := by
  refine o_start (plainFor_of_name o_pn6) (L0 := #[.val (.ref a_1), .val (.int 0), .val (.int 64), .unset, .unset]) (fun _ => rfl) fun p e s m below meth c s₁ hx hby hml hown hnm hret hZ X0 e0 B H => ?_
  have N0 := Fr.nil n0
  have z0 : n0 ≤ h0.size := Z0
  have z1 := o_lt j0.lt
  have K0 : Keep h0 h0 [] := Keep.refl h0 _
  refine xi X0 B d28_0 rfl ?_
  refine xi X0 B d28_1 rfl ?_
  refine o_cst X0 B H e0 (o_rm29_s2 (n0 := n0) hw (by omega)   ) (o_h hw 158 rfl) (o_h hw 159 rfl) (o_w95 hw) (o_h hw 160 rfl) rfl (lenOf o_pd26 rfl) rfl rfl (W := 0) rfl d28_2 (by decide) ?_
  rintro _ T2 L2 X2 ⟨rfl, N2q, e2⟩
  have N2 := Fr.app N0 N2q
  refine xi X2 B d28_5 rfl ?_
  refine xi X2 B d28_6 rfl ?_
  refine xsub X2 B d28_7 (64) rfl ?_
  refine xs X2 B d28_8 (l' := #[.val (.ref a_1), .val (.int 0), .val (.int 64), .val (.int 64), .unset]) rfl ?_
  refine xi X2 B d28_9 rfl ?_
  obtain ⟨T3, h3, k3, X3, e3, E3, A3, st3⟩ := newP X2 hx hZ (hw _ (List.mem_of_getElem? (i := 15) rfl)) e2 (g := (mkF m 10 #[.val (.ref a_1), .val (.int 0), .val (.int 64), .val (.int 64), .unset] [(.int 64)])) rfl (hb hby d28_10) rfl (by decide) (cap := 64) (by decide) (by decide) (by decide) (by decide)
  obtain ⟨b3, g3⟩ : ∃ z, z = h0.size := ⟨_, rfl⟩
  rw [← g3] at A3 st3
  have z4 := E3.1
  have lt_b3 := o_lt A3.lt
  have K3 := K0.ext E3
  have V_b3 : o_AV Z h3 b3 .byte (64 : Int32) (o_by (fun _ => 0)) := o_AV.congr (o_AV.new A3 (by decide)) fun i _ => (o_by0 i).symm
  refine o_go st3 ?_
  refine xT X3 B d28_12 rfl (l' := #[.val (.ref a_1), .val (.int 0), .val (.int 64), .val (.int 64), .val (.ref b3)]) rfl ?_
  refine xa X3 B d28_14 rfl rfl ?_
  refine xi X3 B d28_15 rfl ?_
  refine xA X3 B d28_16 rfl rfl ?_
  refine xc X3 B d28_18 0 rfl ?_
  refine xa X3 B d28_19 rfl rfl ?_
  have f5 := (j0.ext E3)
  refine xl X3 B H e3 f5 d28_20 ?_
  refine xi X3 B d28_21 rfl ?_
  refine xsub X3 B d28_22 (126) rfl ?_
  refine xi X3 B d28_23 rfl ?_
  refine o_cst X3 B H e3 (o_rm16_s4 (n0 := n0) hw (by omega)   ) (o_h hw 97 rfl) (o_h hw 98 rfl) (o_w89 hw) (o_h hw 99 rfl) rfl (lenOf o_pd16 rfl) rfl rfl (W := 4) rfl d28_24 (by decide) ?_
  rintro _ T6 L6 X6 ⟨rfl, N6q, e6⟩
  have N6 := Fr.app N2 N6q
  obtain ⟨T7, h7, L7, X7, e7, N7, Kq7, V7, st7⟩ := o_cpB X6 hx hZ hown (o_h hw 100 rfl) (o_w103 hw) (o_w101 hw) (o_w102 hw) e6 f5 V_b3 (sp' := 0) (dp' := 0) (nn' := 64) (by decide) (by decide) (by decide) (by decide) (by decide) (by decide) (by decide) (by decide) N6 (by omega) (g := (mkF m 27 #[.val (.ref a_1), .val (.int 0), .val (.int 64), .val (.int 64), .val (.ref b3)] [(.int 64), (.int 0), (.ref b3), (.int 0), (.ref a_1)])) rfl (by rw [hml]; rfl) rfl (hb hby d28_27) (by decide) (W := 0) (by show 2 * 0 + _ ≤ _; exact Nat.le_of_eq rfl) (by decide)
  have z8 := Kq7.1
  have K7 := K3.trans Kq7 (allS (Or.inr (by omega)) all0)
  refine o_go st7 ?_
  refine xA X7 B d28_30 rfl rfl ?_
  exact o_retA X7 B hret rfl rfl rfl d28_32 (by decide) e7 ⟨b3, rfl, N7, K7, V7, (by omega)⟩
theorem o_rm27_s2 (hw : o_T Z a0) (Z0 : n0 ≤ h0.size) (a_1 : Addr) (fa_a_1 : Nat → Int32) (j0 : o_AV Z h0 a_1 .byte (126 : Int32) (o_by fa_a_1)) :
    M27' l Z (o_rm 2 1 64 56) #[(.ref a_1), (.int 0), (.int 64)] h0 (fun v h L => ∃ (x_0 : Addr), v = some (.ref x_0) ∧ Fr n0 L ∧ Keep h0 h [] ∧ o_AV Z h x_0 .byte (64 : Int32) (o_by (o_cpi fa_a_1 0 (fun _ => 0) 0 64)) ∧ (h0.size ≤ x_0)) := by
  refine o_start (plainFor_of_name o_pn6) (L0 := #[.val (.ref a_1), .val (.int 0), .val (.int 64)]) (fun _ => rfl) fun p e s m below meth c s₁ hx hby hml hown hnm hret hZ X0 e0 B H => ?_
  have N0 := Fr.nil n0
  have z0 : n0 ≤ h0.size := Z0
  have z1 := o_lt j0.lt
  have K0 : Keep h0 h0 [] := Keep.refl h0 _
  refine xi X0 B d27_0 rfl ?_
  have hc2 : (0 : Int32) = 0 := by decide
  refine xn X0 B d27_1 (XT.i0_ne_f hc2) ?_
  refine xi X0 B d27_4 rfl ?_
  refine xa X0 B d27_5 rfl rfl ?_
  refine xl X0 B H e0 j0 d27_6 ?_
  have hc3 : ¬ ((64 : Int32) = (126 : Int32)) := by decide
  refine xm X0 B d27_7 (XT.ii_eq_f hc3) ?_
  refine xa X0 B d27_10 rfl rfl ?_
  refine xi X0 B d27_11 rfl ?_
  refine xi X0 B d27_12 rfl ?_
  refine o_cst X0 B H e0 (o_rm28_s2 (n0 := n0) hw (by omega) a_1 fa_a_1 j0) (o_h hw 155 rfl) (o_h hw 156 rfl) (o_w95 hw) (o_h hw 157 rfl) rfl (lenOf o_pd27 rfl) rfl rfl (W := 0) rfl d27_13 (by decide) ?_
  rintro _ T4 L4 X4 ⟨x_5, rfl, N4q, K4q, f6, f7⟩
  have N4 := Fr.app N0 N4q
  have z8 := K4q.1
  have K4 := K0.trans K4q all0
  have z9 := o_lt f6.lt
  exact o_retA X4 B hret rfl rfl rfl d27_16 (by decide) rfl ⟨x_5, rfl, N4, K4, f6, (by omega)⟩
theorem o_rm22_s2 (hw : o_T Z a0) (Z0 : n0 ≤ h0.size) (a_1 a_2 ob0 : Addr) (fa_ob0 : Nat → Int32) (u_0 u_1 : Value) (j0 : o_AV Z h0 ob0 .byte (126 : Int32) (o_by fa_ob0)) (j1 : o_E0 Z h0 a_1) (j2 : o_E12 Z h0 a_2) (j3 : o_F1 Z h0 a_1 u_0) (j4 : o_F2 Z h0 a_1 u_1) (j5 : o_F9 Z h0 a_2 (.int 0)) (j6 : o_F10 Z h0 a_2 (.int 64)) (j7 : o_F8 Z h0 a_2 (.ref ob0)) (j8 : o_G Z h0) (hd_a_1_a_2 : o_df a_1 a_2) (hd_a_1_ob0 : o_df a_1 ob0) (gw_a_1 : n0 ≤ a_1) :
    M22' l Z (o_rm 3 1 64 71) #[(.ref a_1), (.ref a_2), .null] h0 (fun v h L => ∃ (x_0 : Addr), v = none ∧ Fr n0 L ∧ Keep h0 h [a_1] ∧ o_E0 Z h a_1 ∧ o_F1 Z h a_1 (.int 0) ∧ o_F2 Z h a_1 (.ref x_0) ∧ o_AV Z h x_0 .byte (64 : Int32) (o_by (o_cpi fa_ob0 0 (fun _ => 0) 0 64)) ∧ (h0.size ≤ x_0)) := by
  refine o_start (plainFor_of_name o_pn2) (L0 := #[.val (.ref a_1), .val (.ref a_2), .val .null, .unset, .unset]) (fun _ => rfl) fun p e s m below meth c s₁ hx hby hml hown hnm hret hZ X0 e0 B H => ?_
  have N0 := Fr.nil n0
  have z0 : n0 ≤ h0.size := Z0
  have z1 := o_lt j0.lt
  have z2 := o_lt j1.lt
  have z3 := o_lt j2.lt
  have K0 : Keep h0 h0 [a_1] := Keep.refl h0 _
  refine xa X0 B d22_0 rfl rfl ?_
  obtain ⟨T4, X4, e4, st4⟩ := initO X0 hx hZ hown (o_w11 hw) (o_w12 hw) (o_w13 hw) e0 (g := (mkF m 1 #[.val (.ref a_1), .val (.ref a_2), .val .null, .unset, .unset] [(.ref a_1)])) rfl (by rw [hml]; rfl) rfl (hb hby d22_1) (by decide) (W := 0) (by show 2 * 0 + _ ≤ _; exact Nat.le_of_eq rfl) (by decide)
  refine o_go st4 ?_
  refine xa X4 B d22_4 rfl rfl ?_
  refine o_cvi X4 B H e4 (o_rm23_s1 (n0 := n0) hw (by omega) a_2 ob0 j7) (o_h hw 134 rfl) (o_h hw 136 rfl) (o_w41 hw) (o_h hw 138 rfl) (o_h hw 135 rfl) (o_h hw 137 rfl) (o_h hw 137 rfl) rfl j2 rfl (lenOf o_pd24 rfl) rfl rfl (W := 0) rfl d22_5 (by decide) ?_
  rintro _ T5 L5 X5 ⟨rfl, N5q, e5⟩
  have N5 := Fr.app N0 N5q
  refine xt X5 B d22_8 rfl (l' := #[.val (.ref a_1), .val (.ref a_2), .val .null, .val (.ref ob0), .unset]) rfl ?_
  refine xa X5 B d22_9 rfl rfl ?_
  refine o_cvi X5 B H e5 (o_rm24_s2 (n0 := n0) hw (by omega) a_2  j2 j6) (o_h hw 139 rfl) (o_h hw 143 rfl) (o_w33 hw) (o_h hw 144 rfl) (o_h hw 140 rfl) (o_h hw 142 rfl) (o_w76 hw) rfl j2 rfl (lenOf o_pd15 rfl) rfl rfl (W := 0) rfl d22_10 (by decide) ?_
  rintro _ T6 L6 X6 ⟨rfl, N6q, e6⟩
  have N6 := Fr.app N5 N6q
  refine xS X6 B d22_13 (l' := #[.val (.ref a_1), .val (.ref a_2), .val .null, .val (.ref ob0), .val (.int 64)]) rfl ?_
  refine xa X6 B d22_15 rfl rfl ?_
  refine o_cvi X6 B H e6 (o_rm26_s1 (n0 := n0) hw (by omega) a_2  j5 j8) (o_h hw 147 rfl) (o_h hw 149 rfl) (o_w41 hw) (o_h hw 151 rfl) (o_h hw 148 rfl) (o_w150 hw) (o_w150 hw) rfl j2 rfl (lenOf o_pd25 rfl) rfl rfl (W := 0) rfl d22_16 (by decide) ?_
  rintro _ T7 L7 X7 ⟨rfl, N7q, e7⟩
  have N7 := Fr.app N6 N7q
  have hc8 : ¬ ((1 : Int32) = 0) := by decide
  refine xn X7 B d22_19 (XT.i0_eq_f hc8) ?_
  refine xa X7 B d22_22 rfl rfl ?_
  refine xc X7 B d22_23 0 rfl ?_
  obtain ⟨T9, h9, X9, e9, W9, st9⟩ := putFN X7 hx hZ hown (o_w21 hw) Via.refl e7 j3 j1 (Or.inr ⟨(o_w17 hw), rfl, hnm⟩) (o_w1 hw) (ty := .byte) (v' := .int 0) (by decide) (rfl) (fits_nar_byte (0 : Int32)) (g := (mkF m 24 #[.val (.ref a_1), .val (.ref a_2), .val .null, .val (.ref ob0), .val (.int 64)] [(.int 0), (.ref a_1)])) rfl rfl (hb hby d22_24)
  have z10 := W9.size
  have K9 := K0.wr W9 (Or.inl o_m0)
  have N9 := Fr.snoc X9 N7 (by omega : n0 ≤ a_1)
  have Fw9 : o_F1 Z h9 a_1 (.int 0) := Fld.same W9 j3
  refine o_go st9 ?_
  refine xa X9 B d22_27 rfl rfl ?_
  refine xa X9 B d22_28 rfl rfl ?_
  refine xc X9 B d22_29 0 rfl ?_
  refine xI X9 B d22_30 rfl ?_
  have f11 := (j0.other W9 hd_a_1_ob0.sym)
  refine o_cst X9 B H e9 (o_rm27_s2 (n0 := n0) hw (by omega) ob0 fa_ob0 f11) (o_h hw 152 rfl) (o_h hw 153 rfl) (o_w95 hw) (o_h hw 154 rfl) rfl (lenOf o_pd27 rfl) rfl rfl (W := 1) rfl d22_32 (by decide) ?_
  rintro _ T12 L12 X12 ⟨x_13, rfl, N12q, K12q, f14, f15⟩
  have N12 := Fr.app N9 N12q
  have z16 := K12q.1
  have K12 := K9.trans K12q all0
  have z17 := o_lt f14.lt
  have f18 := ((j1.wr W9).keep K12q)
  have f19 := ((j4.other W9 (Or.inr (slot_ne (Or.inr (o_w16 hw)) (Or.inr (o_w17 hw)) (by decide) (t := (.array .byte)) (t' := .byte) (by decide) (by decide)))).keep K12q nin0)
  obtain ⟨T20, h20, X20, e20, W20, st20⟩ := putF X12 hx hZ hown (host := "") (Or.inl (o_w20 hw)) Via.refl rfl f19 f18 (Or.inr ⟨(o_w16 hw), rfl, hnm⟩) (o_w1 hw) (ty := (.array .byte)) (by decide) rfl rfl (g := (mkF m 35 #[.val (.ref a_1), .val (.ref a_2), .val .null, .val (.ref ob0), .val (.int 64)] [(.ref x_13), (.ref a_1)])) rfl rfl (hb hby d22_35)
  have z21 := W20.size
  have K20 := K12.wr W20 (Or.inl o_m0)
  have N20 := Fr.snoc X20 N12 (by omega : n0 ≤ a_1)
  have Fw20 : o_F2 Z h20 a_1 (.ref x_13) := Fld.same W20 f19
  refine o_go st20 ?_
  refine xg X20 B 38 97 rfl d22_38 (by decide) ?_
  have f23 := (f18.wr W20)
  have f24 := ((Fw9.keep K12q nin0).other W20 (Or.inr (slot_ne (Or.inr (o_w17 hw)) (Or.inr (o_w16 hw)) (by decide) (t := .byte) (t' := (.array .byte)) (by decide) (by decide))))
  have f25 := (f14.other W20 (o_ne (by omega)))
  exact o_retV X20 B hret d22_97 (by decide) e20 ⟨x_13, rfl, N20, K20, f23, f24, Fw20, f25, (by omega)⟩
theorem o_rm21_s2 (hw : o_T Z a0) (Z0 : n0 ≤ h0.size) (a_1 a_2 ob0 : Addr) (fa_ob0 : Nat → Int32) (u_0 u_1 : Value) (j0 : o_AV Z h0 ob0 .byte (126 : Int32) (o_by fa_ob0)) (j1 : o_E0 Z h0 a_1) (j2 : o_E12 Z h0 a_2) (j3 : o_F1 Z h0 a_1 u_0) (j4 : o_F2 Z h0 a_1 u_1) (j5 : o_F9 Z h0 a_2 (.int 0)) (j6 : o_F10 Z h0 a_2 (.int 64)) (j7 : o_F8 Z h0 a_2 (.ref ob0)) (j8 : o_G Z h0) (hd_a_1_a_2 : o_df a_1 a_2) (hd_a_1_ob0 : o_df a_1 ob0) (gw_a_1 : n0 ≤ a_1) :
    M21' l Z (o_rm 4 1 64 87) #[(.ref a_1), (.ref a_2)] h0 (fun v h L => ∃ (x_0 : Addr), v = none ∧ Fr n0 L ∧ Keep h0 h [a_1] ∧ o_E0 Z h a_1 ∧ o_F1 Z h a_1 (.int 0) ∧ o_F2 Z h a_1 (.ref x_0) ∧ o_AV Z h x_0 .byte (64 : Int32) (o_by (o_cpi fa_ob0 0 (fun _ => 0) 0 64)) ∧ (h0.size ≤ x_0)) := by
  refine o_start (plainFor_of_name o_pn2) (L0 := #[.val (.ref a_1), .val (.ref a_2)]) (fun _ => rfl) fun p e s m below meth c s₁ hx hby hml hown hnm hret hZ X0 e0 B H => ?_
  have N0 := Fr.nil n0
  have z0 : n0 ≤ h0.size := Z0
  have z1 := o_lt j0.lt
  have z2 := o_lt j1.lt
  have z3 := o_lt j2.lt
  have K0 : Keep h0 h0 [a_1] := Keep.refl h0 _
  refine xa X0 B d21_0 rfl rfl ?_
  refine xa X0 B d21_1 rfl rfl ?_
  refine xu X0 B d21_2 ?_
  refine o_csp (a := a_1) X0 B H e0 (o_rm22_s2 (n0 := n0) hw (by omega) a_1 a_2 ob0 fa_ob0 u_0 u_1 j0 j1 j2 j3 j4 j5 j6 j7 j8 hd_a_1_a_2 hd_a_1_ob0 (by omega)) (o_h hw 131 rfl) (o_h hw 132 rfl) (o_w2 hw) (o_h hw 133 rfl) rfl rfl (lenOf o_pd28 rfl) rfl rfl (W := 0) rfl d21_3 (by decide) ?_
  rintro _ T4 L4 X4 ⟨x_5, rfl, N4q, K4q, f6, f7, f8, f9, f10⟩
  have N4 := Fr.app N0 N4q
  have z11 := K4q.1
  have K4 := K0.trans K4q (allS (Or.inl o_m0) all0)
  have z12 := o_lt f6.lt
  have z13 := o_lt f9.lt
  exact o_retV X4 B hret d21_6 (by decide) rfl ⟨x_5, rfl, N4, K4, f6, f7, f8, f9, (by omega)⟩
theorem o_rm20_s2 (hw : o_T Z a0) (Z0 : n0 ≤ h0.size) (a_1 ob0 : Addr) (fa_ob0 : Nat → Int32) (j0 : o_AV Z h0 ob0 .byte (126 : Int32) (o_by fa_ob0)) (j1 : o_E12 Z h0 a_1) (j2 : o_F9 Z h0 a_1 (.int 0)) (j3 : o_F10 Z h0 a_1 (.int 64)) (j4 : o_F8 Z h0 a_1 (.ref ob0)) (j5 : o_G Z h0) :
    M20' l Z (o_rm 5 2 68 101) #[(.ref a_1)] h0 (fun v h L => ∃ (x_0 : Addr) (x_1 : Addr), v = some (.ref x_0) ∧ Fr n0 L ∧ Keep h0 h [] ∧ o_E0 Z h x_0 ∧ o_F1 Z h x_0 (.int 0) ∧ o_F2 Z h x_0 (.ref x_1) ∧ o_AV Z h x_1 .byte (64 : Int32) (o_by (o_cpi fa_ob0 0 (fun _ => 0) 0 64)) ∧ (h0.size ≤ x_0) ∧ (h0.size ≤ x_1) ∧ (o_lts [x_0, x_1])) := by
  refine o_start (plainFor_of_name o_pn4) (L0 := #[.val (.ref a_1)]) (fun _ => rfl) fun p e s m below meth c s₁ hx hby hml hown hnm hret hZ X0 e0 B H => ?_
  have N0 := Fr.nil n0
  have z0 : n0 ≤ h0.size := Z0
  have z1 := o_lt j0.lt
  have z2 := o_lt j1.lt
  have K0 : Keep h0 h0 [] := Keep.refl h0 _
  obtain ⟨T3, h3, X3, e3, E3, A3, D3, Y3, st3⟩ := newO X0 hx hZ hown (o_h hw 127 rfl) (o_w1 hw) (o_w2 hw) e0 (g := (mkF m 0 #[.val (.ref a_1)] [])) rfl (hb hby d20_0) (by decide) (by decide)
  obtain ⟨b3, g3⟩ : ∃ z, z = h0.size := ⟨_, rfl⟩
  rw [← g3] at A3 D3 Y3 st3
  have z4 := E3.1
  have lt_b3 := o_lt A3.lt
  have K3 := K0.ext E3
  have F_value_b3 : o_F2 Z h3 b3 .null := D3 (Or.inr (o_w16 hw)) (ty := (.array .byte)) (by decide)
  have F_coder_b3 : o_F1 Z h3 b3 (.int 0) := D3 (Or.inr (o_w17 hw)) (ty := .byte) (by decide)
  refine o_go st3 ?_
  refine xd X3 B d20_3 rfl ?_
  refine xa X3 B d20_4 rfl rfl ?_
  have f5 := (j0.ext E3)
  have f6 := (j1.ext E3)
  have f7 := (j2.ext E3)
  have f8 := (j3.ext E3)
  have f9 := (j4.ext E3)
  have f10 := (j5.ext E3)
  refine o_csp (a := b3) X3 B H e3 (o_rm21_s2 (n0 := n0) hw (by omega) b3 a_1 ob0 fa_ob0 (.int 0) .null f5 A3 f6 F_coder_b3 F_value_b3 f7 f8 f9 f10 (o_ne (by omega)) (o_ne (by omega)) (by omega)) (o_h hw 128 rfl) (o_h hw 129 rfl) (o_w2 hw) (o_h hw 130 rfl) rfl rfl (lenOf o_pd29 rfl) rfl rfl (W := 1) rfl d20_5 (by decide) ?_
  rintro _ T11 L11 X11 ⟨x_12, rfl, N11q, K11q, f13, f14, f15, f16, f17⟩
  have N11 := Fr.app N0 N11q
  have z18 := K11q.1
  have K11 := K3.trans K11q (allS (Or.inr (by omega)) all0)
  have z19 := o_lt f13.lt
  have z20 := o_lt f16.lt
  exact o_retA X11 B hret rfl rfl rfl d20_8 (by decide) rfl ⟨b3, x_12, rfl, N11, K11, f13, f14, f15, f16, (by omega), (by omega), (by simp only [o_lts, and_true]; omega)⟩
theorem o_ef_own_rm4_k1L (m : MethodId) (x0 : Addr) : entryFrame m #[(.ref x0)] 1 = mkF m 0 #[.val (.ref x0)] [] := by first | (simp [entryFrame, mkF, argsToLocals, Value.category]; done) | rfl
def o_Q4_k1L (Z : State) (a_1 : Addr) (oq : Addr) (fq : Nat → Int32) (h0 : Heap) (n0 : Nat) (v : Option Value) (h : Heap) (L : List Loc) : Prop := ∃ (x_0 : Addr) (x_1 : Addr) (x_2 : Addr), v = some (.ref x_0) ∧ Fr n0 L ∧ Keep h0 h [] ∧ o_E13 Z h x_0 ∧ o_F3 Z h x_0 .null ∧ o_F6 Z h x_0 (.ref x_1) ∧ o_F7 Z h x_0 (.ref (o_iq Z)) ∧ o_F4 Z h x_0 .null ∧ o_F5 Z h x_0 .null ∧ o_E0 Z h x_1 ∧ o_F1 Z h x_1 (.int 0) ∧ o_F2 Z h x_1 (.ref x_2) ∧ o_AV Z h x_2 .byte (64 : Int32) (o_by (o_cpi (o_cpi (o_ls [46]) 0 (o_cpi fq 0 (o_cpi (o_cpi (o_ls o_T62) 0 (o_cpi (fun _ => 0) 0 (fun _ => 0) 0 16) 0 62) 0 (fun _ => 0) 0 62) 62 1) 63 1) 0 (fun _ => 0) 0 64)) ∧ (h0.size ≤ x_0) ∧ (h0.size ≤ x_1) ∧ (h0.size ≤ x_2) ∧ (o_lts [x_0, x_1, x_2])
theorem o_rm4_k1L (l : Launch) (Z : State) (a0 : Array Value) (hw : ∀ d ∈ tables_1, d.before a0 Z = true) (ws : List Jvm.Cond) (a_1 : Addr) (oq : Addr) (fq : Nat → Int32) (h0 : Heap) (n0 : Nat) (Z0 : n0 ≤ h0.size) (j0 : o_G Z h0) (j1 : o_E0 Z h0 a_1) (j2 : o_F2 Z h0 a_1 (.ref oq)) (j3 : o_F1 Z h0 a_1 (.int 0)) (j4 : o_AV Z h0 oq .byte (1 : Int32) (o_by fq)) (hg_n0 : n0 = h0.size) (hold : o_old Z h0) :
    MetFree l (⟨"com/example/orderly_storefront/orderlystorefront/cart/CartException", "invalidQuantity", "(Ljava/lang/String;)Lcom/example/orderly_storefront/orderlystorefront/cart/CartException;"⟩ : MethodName) (head1 (Jvm.Cond.code (⟨"com/example/orderly_storefront/orderlystorefront/cart/CartException", "invalidQuantity", "(Ljava/lang/String;)Lcom/example/orderly_storefront/orderlystorefront/cart/CartException;"⟩ : MethodName) prog_5_method_2_code 1 (some (.object "com/example/orderly_storefront/orderlystorefront/cart/CartException")) :: ws) ({ frames := 6, cells := 11, slots := 543, locals := 116 } : Room)) (fun a U => a = #[(.ref a_1)] ∧ Z.Warmed39 U.vm ∧ U.heap = h0 ∧ (fun vm : Vm => Jvm.ConstHeldL (Z.setVm vm) "com/example/orderly_storefront/orderlystorefront/cart/CartException" 25 ∧ Jvm.ConstHeldL (Z.setVm vm) "com/example/orderly_storefront/orderlystorefront/cart/CartException" 31 ∧ Jvm.ConstHeldL (Z.setVm vm) "com/example/orderly_storefront/orderlystorefront/cart/CartExceptionInvalidQuantityPinLaw" 28) U.vm) (fun _ _ _ _ _ => True) (fun _ U o U' => ∃ v L, o = .returned v ∧ (o_Q4_k1L Z a_1 oq fq h0 n0 v U'.heap L ∧ (fun vm : Vm => Jvm.ConstHeldL (Z.setVm vm) "com/example/orderly_storefront/orderlystorefront/cart/CartExceptionInvalidQuantityPinLaw" 28) U'.vm) ∧ ReturnedEndW U o U' L ({ frames := 6, cells := 11, slots := 543, locals := 116 } : Room).cells ({ frames := 6, cells := 11, slots := 543, locals := 116 } : Room).slots) := by
  refine MetFree.of_bodySF (plainFor_of_name o_pn9) hisR ?_
  intro p e s m args below meth c s₁ Bd hml0 hP hK
  obtain ⟨rfl, hZ, hh, ⟨hp0, hp1, hp2⟩⟩ := hP
  have hx := Bd.exec
  have hby := Bd.bytes
  have hml : c.maxLocals = 1 := hml0
  have hown : s.vm.findClass "com/example/orderly_storefront/orderlystorefront/cart/CartException" = some m.cls := findClass_of_methodNamed Bd.named
  have hnm := (name_of_methodNamed Bd.named Bd.method).1
  have X0 : Stand p l e ({ frames := 6, cells := 11, slots := 543, locals := 116 } : Room) s m #[(.ref a_1)] below meth c s₁ [] 0 0 := Stand.of_body Bd
  have e0 : s₁.heap = h0 := by rw [← hh, Bd.state]; rfl
  have N0 := Fr.nil n0
  have B : o_C p c _ := ⟨hx, hby⟩
  have H : o_H s Z m _ c _ := ⟨hZ, hown, hml⟩
  have X0 : Stand p l e ({ frames := 6, cells := 11, slots := 543, locals := 116 } : Room) (s.setVm s.vm) m #[(.ref a_1)] below meth c s₁ [] 0 0 := X0
  have hZ : Z.Warmed39 (s.setVm s.vm).vm := hZ
  have hown : (s.setVm s.vm).vm.findClass "com/example/orderly_storefront/orderlystorefront/cart/CartException" = some m.cls := hown
  have hS0 : s.Since s.vm 0 := (State.WarmedH.refl s).since 0
  have H : o_H _ Z m _ c _ := ⟨hZ, hown, hml⟩
  have z0 : n0 ≤ h0.size := Z0
  have z1 := o_lt j1.lt
  have z2 := o_lt j4.lt
  have K0 : Keep h0 h0 [] := Keep.refl h0 _
  show o_Go p.tables e below (fun t o => t.status = .running ∧ Ended t below o ∧ ∃ v L, o = .returned v ∧ (o_Q4_k1L Z a_1 oq fq h0 n0 v t.heap L ∧ (fun vm : Vm => Jvm.ConstHeldL (Z.setVm vm) "com/example/orderly_storefront/orderlystorefront/cart/CartExceptionInvalidQuantityPinLaw" 28) t.vm) ∧ ReturnedEndW s o t L ({ frames := 6, cells := 11, slots := 543, locals := 116 } : Room).cells ({ frames := 6, cells := 11, slots := 543, locals := 116 } : Room).slots) s₁ (entryFrame m #[(.ref a_1)] 1)
  rw [o_ef_own_rm4_k1L m a_1]
  show o_Go _ _ _ _ s₁ (mkF m 0 #[.val (.ref a_1)] [])
  obtain ⟨T3, h3, X3, e3, E3, A3, D3, Y3, st3⟩ := newO X0 hx hZ hown (o_h hw 26 rfl) (o_w27 hw) (o_w24 hw) e0 (g := (mkF m 0 #[.val (.ref a_1)] [])) rfl (hb hby d4_0) (by decide) (by decide)
  obtain ⟨b3, g3⟩ : ∃ z, z = h0.size := ⟨_, rfl⟩
  rw [← g3] at A3 D3 Y3 st3
  have z4 := E3.1
  have lt_b3 := o_lt A3.lt
  have K3 := K0.ext E3
  have F_cause_b3 : o_F3 Z h3 b3 .null := D3 (Or.inl (o_w177 hw)) (ty := (.object "java/lang/Throwable")) (by decide)
  have F_stackTrace_b3 : o_F4 Z h3 b3 .null := D3 (Or.inl (o_w180 hw)) (ty := (.array (.object "java/lang/StackTraceElement"))) (by decide)
  have F_suppressedExceptions_b3 : o_F5 Z h3 b3 .null := D3 (Or.inl (o_w183 hw)) (ty := (.object "java/util/List")) (by decide)
  have F_detailMessage_b3 : o_F6 Z h3 b3 .null := D3 (Or.inl (o_w185 hw)) (ty := (.object "java/lang/String")) (by decide)
  have F_reason_b3 : o_F7 Z h3 b3 .null := D3 (Or.inr (o_w187 hw)) (ty := (.object "com/example/orderly_storefront/orderlystorefront/cart/CartException$Reason")) (by decide)
  refine o_go st3 ?_
  refine xd X3 B d4_3 rfl ?_
  have f5 := (j0.ext E3)
  refine o_gs X3 B H (o_h hw 28 rfl) e3 f5.2.2.2.2.2.2.2.1 d4_4 fun T6 X6 e6 => ?_
  obtain ⟨T7, h7, X7, e7, E7, A7, D7, Y7, st7⟩ := newO X6 hx hZ hown (o_h hw 31 rfl) (o_w32 hw) (o_w33 hw) e6 (g := (mkF m 7 #[.val (.ref a_1)] [(.ref (o_iq Z)), (.ref b3), (.ref b3)])) rfl (hb hby d4_7) (by decide) (by decide)
  obtain ⟨b7, g7⟩ : ∃ z, z = h3.size := ⟨_, rfl⟩
  rw [← g7] at A7 D7 Y7 st7
  have z8 := E7.1
  have lt_b7 := o_lt A7.lt
  have K7 := K3.ext E7
  have F_value_b7 : o_F8 Z h7 b7 .null := D7 (Or.inl (o_w46 hw)) (ty := (.array .byte)) (by decide)
  have F_coder_b7 : o_F9 Z h7 b7 (.int 0) := D7 (Or.inl (o_w48 hw)) (ty := .byte) (by decide)
  have F_count_b7 : o_F10 Z h7 b7 (.int 0) := D7 (Or.inl (o_w72 hw)) (ty := .int) (by decide)
  have F_maybeLatin1_b7 : o_F11 Z h7 b7 (.int 0) := D7 (Or.inl (o_w269 hw)) (ty := .boolean) (by decide)
  refine o_go st7 ?_
  refine xd X7 B d4_10 rfl ?_
  have f9 := (f5.ext E7)
  refine o_csp (a := b7) X7 B H e7 (o_rm5_s1 (n0 := n0) hw (by omega) b7 (.int 0) (.int 0) (.int 0) .null A7 F_coder_b7 F_count_b7 F_maybeLatin1_b7 F_value_b7 f9 (by omega)) (o_h hw 34 rfl) (o_h hw 35 rfl) (o_w33 hw) (o_h hw 36 rfl) rfl rfl (lenOf o_pd13 rfl) rfl rfl (W := 4) rfl d4_11 (by decide) ?_
  rintro _ T10 L10 X10 ⟨x_11, rfl, N10q, K10q, f12, f13, f14, f15, f16, f17, f18⟩
  have N10 := Fr.app N0 N10q
  have z19 := K10q.1
  have K10 := K7.trans K10q (allS (Or.inr (by omega)) all0)
  have z20 := o_lt f12.lt
  have z21 := o_lt f17.lt
  have hZ22 := hZ
  obtain ⟨b22, c22, T22, h22, k22, X22, e22, E22, hS22, g22, hZ, hown, Li22, Wn22, Hi22, Ex22, Fv22, Fc22, Av22, sp22, st22⟩ := o_ldcC X10 hx hZ hown (o_w49 hw) (o_wS hw) (o_w16 hw) (o_w17 hw) rfl hS0 (by omega) N10 (Or.inl (by rw [hh]; exact Nat.le_of_eq hg_n0.symm)) hp0 (by rw [hh]; exact hold) (bs := o_T62) (z := (62 : Int32)) (by decide +kernel) (fun _ q => o_lb62 q) (by decide +kernel) (by decide) (by decide) (g := (mkF m 14 #[.val (.ref a_1)] [(.ref b7), (.ref (o_iq Z)), (.ref b3), (.ref b3)])) rfl (hb hby d4_14) (n := 248) (by decide +kernel) (by decide) (by decide) (by decide)
  have z23 := E22.1
  rw [hh] at sp22; unfold o_sep at sp22
  have N22 := Fr.nil n0
  have H : o_H _ Z m _ c _ := ⟨hZ, hown, hml⟩
  have Hh24 := o_carry (s := s) hZ22 (o_w121 hw) Wn22 (o_hint (by decide) Hi22) hp1
  have Hh25 := o_carry (s := s) hZ22 (o_w194 hw) Wn22 (o_hint (by decide) Hi22) hp2
  have z26 := o_lt Ex22.lt
  have z27 := o_lt Av22.lt
  have K22 := K10.ext E22
  refine o_go st22 ?_
  have f28 := (f17.ext E22)
  have f29 := (f12.ext E22)
  have f30 := (f13.ext E22)
  have f31 := (f14.ext E22)
  have f32 := (f15.ext E22)
  have f33 := (f16.ext E22)
  have f34 := ((f9.keep K10q (allS (o_exa_plain A7) all0)).ext E22)
  refine o_cvi X22 B H e22 (o_rm7_s1 (n0 := n0) hw (by omega) b7 b22 x_11 c22 (fun _ => 0) (o_ls o_T62) (.int 0) f28 Av22 f29 Ex22 f30 f31 f32 f33 Fc22 Fv22 f34 (o_ne (by omega)) (o_ne (by omega)) (o_ne (by omega)) (by omega)) (o_w50 hw) (o_w52 hw) (o_w33 hw) (o_w54 hw) (o_w51 hw) (o_w53 hw) (o_w53 hw) rfl f29 rfl (lenOf o_pd23 rfl) rfl rfl (W := 3) rfl d4_16 (by decide) ?_
  rintro _ T35 L35 X35 ⟨x_36, rfl, N35q, K35q, f37, f38, f39, f40, f41, f42, f43⟩
  have N35 := Fr.app N22 N35q
  have z44 := K35q.1
  have K35 := K22.trans K35q (allS (Or.inr (by omega)) all0)
  have z45 := o_lt f37.lt
  have z46 := o_lt f42.lt
  refine xa X35 B d4_19 rfl rfl ?_
  have f47 := (((((j4.ext E3).ext E7).keep K10q (ninS (o_ne (by omega)) nin0)).ext E22).keep K35q (ninS (o_ne (by omega)) nin0))
  have f48 := (((((j1.ext E3).ext E7).keep K10q).ext E22).keep K35q)
  have f49 := (((((j3.ext E3).ext E7).keep K10q (ninS (o_ne (by omega)) nin0)).ext E22).keep K35q (ninS (o_ne (by omega)) nin0))
  have f50 := (((((j2.ext E3).ext E7).keep K10q (ninS (o_ne (by omega)) nin0)).ext E22).keep K35q (ninS (o_ne (by omega)) nin0))
  have f51 := (f34.keep K35q (allS (o_exa_plain f29) all0))
  refine o_cvi X35 B H rfl (o_rm7_s3 (n0 := n0) hw (by omega) b7 a_1 x_36 oq (o_cpi (o_ls o_T62) 0 (o_cpi (fun _ => 0) 0 (fun _ => 0) 0 16) 0 62) fq (.int 0) f42 f47 f37 f48 f38 f39 f40 f41 f49 f50 f51 (o_ne (by omega)) (o_ne (by omega)) (o_ne (by omega)) (by omega)) (o_w50 hw) (o_w52 hw) (o_w33 hw) (o_w54 hw) (o_w51 hw) (o_w53 hw) (o_w53 hw) rfl f37 rfl (lenOf o_pd23 rfl) rfl rfl (W := 3) rfl d4_20 (by decide) ?_
  rintro _ T52 L52 X52 ⟨x_53, rfl, N52q, K52q, f54, f55, f56, f57, f58, f59, f60⟩
  have N52 := Fr.app N35 N52q
  have z61 := K52q.1
  have K52 := K35.trans K52q (allS (Or.inr (by omega)) all0)
  have z62 := o_lt f54.lt
  have z63 := o_lt f59.lt
  have hZ64 := hZ
  obtain ⟨b64, c64, T64, h64, k64, X64, e64, E64, hS64, g64, hZ, hown, Li64, Wn64, Hi64, Ex64, Fv64, Fc64, Av64, sp64, st64⟩ := o_ldcC X52 hx hZ hown (o_w121 hw) (o_wS hw) (o_w16 hw) (o_w17 hw) rfl hS22 (by omega) N52 (Or.inl (by rw [hh]; exact Nat.le_of_eq hg_n0.symm)) Hh24 (by rw [hh]; exact hold) (bs := [46]) (z := (1 : Int32)) (by decide +kernel) (fun _ q => o_lb1 q) (by decide +kernel) (by decide) (by decide) (g := (mkF m 23 #[.val (.ref a_1)] [(.ref b7), (.ref (o_iq Z)), (.ref b3), (.ref b3)])) rfl (hb hby d4_23) (n := 4) (by decide +kernel) (by decide) (by decide) (by decide)
  have z65 := E64.1
  rw [hh] at sp64; unfold o_sep at sp64
  have N64 := Fr.nil n0
  have H : o_H _ Z m _ c _ := ⟨hZ, hown, hml⟩
  have Li66 := Li22.stays Wn64
  have Hh67 := o_carry (s := s) hZ64 (o_w194 hw) Wn64 (o_hint (by decide) Hi64) Hh25
  have z68 := o_lt Ex64.lt
  have z69 := o_lt Av64.lt
  have K64 := K52.ext E64
  refine o_go st64 ?_
  have f70 := (f59.ext E64)
  have f71 := (f54.ext E64)
  have f72 := (f55.ext E64)
  have f73 := (f56.ext E64)
  have f74 := (f57.ext E64)
  have f75 := (f58.ext E64)
  have f76 := ((f51.keep K52q (allS (o_exa_plain f37) all0)).ext E64)
  refine o_cvi X64 B H e64 (o_rm7_s4 (n0 := n0) hw (by omega) b7 b64 x_53 c64 (o_cpi fq 0 (o_cpi (o_cpi (o_ls o_T62) 0 (o_cpi (fun _ => 0) 0 (fun _ => 0) 0 16) 0 62) 0 (fun _ => 0) 0 62) 62 1) (o_ls [46]) (.int 0) f70 Av64 f71 Ex64 f72 f73 f74 f75 Fc64 Fv64 f76 (o_ne (by omega)) (o_ne (by omega)) (o_ne (by omega)) (o_ne (by omega)) (o_ne (by omega)) (by omega) (by omega)) (o_w50 hw) (o_w52 hw) (o_w33 hw) (o_w54 hw) (o_w51 hw) (o_w53 hw) (o_w53 hw) rfl f71 rfl (lenOf o_pd23 rfl) rfl rfl (W := 3) rfl d4_25 (by decide) ?_
  rintro _ T77 L77 X77 ⟨rfl, N77q, K77q, f78, f79, f80, f81, f82, f83⟩
  have N77 := Fr.app N64 N77q
  have z84 := K77q.1
  have K77 := K64.trans K77q (allS (Or.inr (by omega)) (allS (Or.inr (by omega)) all0))
  have z85 := o_lt f78.lt
  have z86 := o_lt f79.lt
  have f87 := (f76.keep K77q (allS (o_AV.plain f70) (allS (o_exa_plain f71) all0)))
  refine o_cvi X77 B H rfl (o_rm20_s2 (n0 := n0) hw (by omega) b7 x_53 (o_cpi (o_ls [46]) 0 (o_cpi fq 0 (o_cpi (o_cpi (o_ls o_T62) 0 (o_cpi (fun _ => 0) 0 (fun _ => 0) 0 16) 0 62) 0 (fun _ => 0) 0 62) 62 1) 63 1) f78 f79 f80 f81 f83 f87) (o_h hw 122 rfl) (o_h hw 124 rfl) (o_w33 hw) (o_h hw 126 rfl) (o_h hw 123 rfl) (o_h hw 125 rfl) (o_h hw 125 rfl) rfl f79 rfl (lenOf o_pd30 rfl) rfl rfl (W := 3) rfl d4_28 (by decide) ?_
  rintro _ T88 L88 X88 ⟨x_89, x_90, rfl, N88q, K88q, f91, f92, f93, f94, f95, f96, f97⟩
  have N88 := Fr.app N77 N88q
  have z98 := K88q.1
  have K88 := K77.trans K88q all0
  have z99 := o_lt f91.lt
  have z100 := o_lt f94.lt
  simp only [o_lts, and_true] at f97
  have f101 := ((((((((A3.ext E7).keep K10q).ext E22).keep K35q).keep K52q).ext E64).keep K77q).keep K88q)
  have f102 := ((((((((F_cause_b3.ext E7).keep K10q (ninS (o_ne (by omega)) nin0)).ext E22).keep K35q (ninS (o_ne (by omega)) nin0)).keep K52q (ninS (o_ne (by omega)) nin0)).ext E64).keep K77q (ninS (o_ne (by omega)) (ninS (o_ne (by omega)) nin0))).keep K88q nin0)
  have f103 := ((((((((F_detailMessage_b3.ext E7).keep K10q (ninS (o_ne (by omega)) nin0)).ext E22).keep K35q (ninS (o_ne (by omega)) nin0)).keep K52q (ninS (o_ne (by omega)) nin0)).ext E64).keep K77q (ninS (o_ne (by omega)) (ninS (o_ne (by omega)) nin0))).keep K88q nin0)
  have f104 := ((((((((F_reason_b3.ext E7).keep K10q (ninS (o_ne (by omega)) nin0)).ext E22).keep K35q (ninS (o_ne (by omega)) nin0)).keep K52q (ninS (o_ne (by omega)) nin0)).ext E64).keep K77q (ninS (o_ne (by omega)) (ninS (o_ne (by omega)) nin0))).keep K88q nin0)
  have f105 := ((((((((F_stackTrace_b3.ext E7).keep K10q (ninS (o_ne (by omega)) nin0)).ext E22).keep K35q (ninS (o_ne (by omega)) nin0)).keep K52q (ninS (o_ne (by omega)) nin0)).ext E64).keep K77q (ninS (o_ne (by omega)) (ninS (o_ne (by omega)) nin0))).keep K88q nin0)
  have f106 := ((((((((F_suppressedExceptions_b3.ext E7).keep K10q (ninS (o_ne (by omega)) nin0)).ext E22).keep K35q (ninS (o_ne (by omega)) nin0)).keep K52q (ninS (o_ne (by omega)) nin0)).ext E64).keep K77q (ninS (o_ne (by omega)) (ninS (o_ne (by omega)) nin0))).keep K88q nin0)
  have f107 := (f87.keep K88q all0)
  refine o_csp (a := b3) X88 B H rfl (o_rm30_s1 (n0 := n0) hw (by omega) b3 (o_iq Z) x_89 .null .null .null .null .null f101 f102 f103 f104 f105 f106 f107 (by omega)) (o_h hw 161 rfl) (o_h hw 162 rfl) (o_w24 hw) (o_h hw 163 rfl) rfl rfl (lenOf o_pd32 rfl) rfl rfl (W := 1) rfl d4_31 (by decide) ?_
  rintro _ T108 L108 X108 ⟨rfl, N108q, K108q, f109, f110, f111, f112, f113, f114⟩
  have N108 := Fr.app N88 N108q
  have z115 := K108q.1
  have K108 := K88.trans K108q (allS (Or.inr (by omega)) all0)
  have z116 := o_lt f109.lt
  obtain ⟨fs, hr, hrun, hended, hRW⟩ := X108.leaveW hS64 (by omega) (v := some (.ref b3)) (fun h => by rw [Bd.returns] at h; cases h)
  refine ⟨_, _, retOut X108 hx Bd.returns rfl (Or.inr (Or.inr (Or.inr (Or.inr ⟨rfl, rfl, rfl⟩)))) (hb hby d4_34) hr, hrun, hended, _, _, rfl, ?_, o_monoW hRW (by decide) (by decide)⟩
  refine ⟨?_, o_carryH hZ (o_w194 hw) X108.warmed Hh67⟩
  have f118 := (f91.keep K108q)
  have f119 := (f92.keep K108q (ninS (o_ne (by omega)) nin0))
  have f120 := (f93.keep K108q (ninS (o_ne (by omega)) nin0))
  have f121 := (f94.keep K108q (ninS (o_ne (by omega)) nin0))
  exact ⟨b3, x_89, x_90, rfl, N108, K108, f109, f110, f111, f112, f113, f114, f118, f119, f120, f121, (by omega), (by omega), (by omega), (by simp only [o_lts, and_true]; omega)⟩
theorem o_rm10_s2 (hw : o_T Z a0) (Z0 : n0 ≤ h0.size) (a_1 : Addr) (j0 : o_F1 Z h0 a_1 (.int 1)) (j1 : o_G Z h0) :
    M10' l Z (o_rm 0 0 0 0) #[(.ref a_1)] h0 (fun v h L => v = some (.int 1) ∧ Fr n0 L ∧ h = h0) := by
  refine o_start (plainFor_of_name o_pn2) (L0 := #[.val (.ref a_1)]) (fun _ => rfl) fun p e s m below meth c s₁ hx hby hml hown hnm hret hZ X0 e0 B H => ?_
  have N0 := Fr.nil n0
  have z0 : n0 ≤ h0.size := Z0
  have z1 := o_lt j0.lt
  refine o_gs X0 B H (o_w70 hw) e0 j1.1 d10_0 fun T2 X2 e2 => ?_
  refine xn X2 B d10_3 (XT.i0_eq_f (o_hcs j1)) ?_
  refine xa X2 B d10_6 rfl rfl ?_
  refine o_gf X2 B H (o_w21 hw) e2 j0 d10_7 fun T4 X4 e4 => ?_
  refine xg X4 B 10 14 rfl d10_10 (by decide) ?_
  exact o_retI X4 B hret (Or.inr (Or.inr (Or.inl rfl))) rfl d10_14 (by decide) e4 ⟨rfl, N0, rfl⟩
theorem o_rm9_s4 (hw : o_T Z a0) (Z0 : n0 ≤ h0.size) (a_1 ob0 : Addr) (fa_ob0 : Nat → Int32) (j0 : o_AV Z h0 ob0 .byte (2 : Int32) (o_by fa_ob0)) (j1 : o_E0 Z h0 a_1) (j2 : o_F1 Z h0 a_1 (.int 1)) (j3 : o_F2 Z h0 a_1 (.ref ob0)) (j4 : o_G Z h0) :
    M9' l Z (o_rm 1 0 0 13) #[(.ref a_1)] h0 (fun v h L => v = some (.int 1) ∧ Fr n0 L ∧ h = h0) := by
  refine o_start (plainFor_of_name o_pn2) (L0 := #[.val (.ref a_1)]) (fun _ => rfl) fun p e s m below meth c s₁ hx hby hml hown hnm hret hZ X0 e0 B H => ?_
  have N0 := Fr.nil n0
  have z0 : n0 ≤ h0.size := Z0
  have z1 := o_lt j0.lt
  have z2 := o_lt j1.lt
  refine xa X0 B d9_0 rfl rfl ?_
  refine o_gf X0 B H (o_w20 hw) e0 j3 d9_1 fun T3 X3 e3 => ?_
  refine xl X3 B H e3 j0 d9_4 ?_
  refine xa X3 B d9_5 rfl rfl ?_
  refine o_cvi X3 B H e3 (o_rm10_s2 (n0 := n0) hw (by omega) a_1  j2 j4) (o_w65 hw) (o_w67 hw) (o_w2 hw) (o_w69 hw) (o_w66 hw) (o_w68 hw) (o_w68 hw) rfl j1 rfl (lenOf o_pd14 rfl) rfl rfl (W := 1) rfl d9_6 (by decide) ?_
  rintro _ T4 L4 X4 ⟨rfl, N4q, e4⟩
  have N4 := Fr.app N0 N4q
  refine xshr X4 B d9_9 (1) rfl ?_
  exact o_retI X4 B hret (Or.inl rfl) rfl d9_10 (by decide) e4 ⟨rfl, N4, rfl⟩
theorem o_rm42_s4 (hw : o_T Z a0) (Z0 : n0 ≤ h0.size) :
    M42' l Z (o_rm 0 0 0 0) #[(.int 126)] h0 (fun v h L => v = some (.int 252) ∧ Fr n0 L ∧ h = h0) := by
  refine o_start (plainFor_of_name o_pn0) (L0 := #[.val (.int 126)]) (fun _ => rfl) fun p e s m below meth c s₁ hx hby hml hown hnm hret hZ X0 e0 B H => ?_
  have N0 := Fr.nil n0
  have z0 : n0 ≤ h0.size := Z0
  refine xi X0 B d42_0 rfl ?_
  have hc1 : ¬ ((126 : Int32) < 0) := by decide
  refine xy X0 B 1 12 rfl d42_1 (XT.i0_ge_t hc1) (by decide) ?_
  refine xi X0 B d42_12 rfl ?_
  refine o_go (fun _ k => X0.ldcInt hx hown (mvT hZ (o_h hw 230 rfl)) (g := (mkF m 13 #[.val (.int 126)] [(.int 126)])) rfl (hb hby d42_13) _ k) ?_
  show o_Go _ _ _ _ s₁ (mkF m 15 #[.val (.int 126)] [(.int 1073741823), (.int 126)])
  have hc2 : (126 : Int32) < (1073741823 : Int32) := by decide
  refine xM X0 B 15 55 rfl d42_15 (XT.ii_lt_t hc2) (by decide) ?_
  refine xi X0 B d42_55 rfl ?_
  refine xc X0 B d42_56 1 rfl ?_
  refine xshl X0 B d42_57 (252) rfl ?_
  exact o_retI X0 B hret (Or.inl rfl) rfl d42_58 (by decide) e0 ⟨rfl, N0, rfl⟩
theorem o_rm41_s4 (hw : o_T Z a0) (Z0 : n0 ≤ h0.size) :
    M41' l Z (o_rm 1 1 252 12) #[(.int 126)] h0 (fun v h L => ∃ (x_0 : Addr), v = some (.ref x_0) ∧ Fr n0 L ∧ Keep h0 h [] ∧ o_AV Z h x_0 .byte (252 : Int32) (o_by (fun _ => 0)) ∧ (h0.size ≤ x_0)) := by
  refine o_start (plainFor_of_name o_pn0) (L0 := #[.val (.int 126)]) (fun _ => rfl) fun p e s m below meth c s₁ hx hby hml hown hnm hret hZ X0 e0 B H => ?_
  have N0 := Fr.nil n0
  have z0 : n0 ≤ h0.size := Z0
  have K0 : Keep h0 h0 [] := Keep.refl h0 _
  refine xi X0 B d41_0 rfl ?_
  refine o_cst X0 B H e0 (o_rm42_s4 (n0 := n0) hw (by omega)   ) (o_h hw 227 rfl) (o_h hw 228 rfl) (o_w213 hw) (o_h hw 229 rfl) rfl (lenOf o_pd5 rfl) rfl rfl (W := 0) rfl d41_1 (by decide) ?_
  rintro _ T1 L1 X1 ⟨rfl, N1q, e1⟩
  have N1 := Fr.app N0 N1q
  obtain ⟨T2, h2, k2, X2, e2, E2, A2, st2⟩ := newP X1 hx hZ (hw _ (List.mem_of_getElem? (i := 15) rfl)) e1 (g := (mkF m 4 #[.val (.int 126)] [(.int 252)])) rfl (hb hby d41_4) rfl (by decide) (cap := 252) (by decide) (by decide) (by decide) (by decide)
  obtain ⟨b2, g2⟩ : ∃ z, z = h0.size := ⟨_, rfl⟩
  rw [← g2] at A2 st2
  have z3 := E2.1
  have lt_b2 := o_lt A2.lt
  have K2 := K0.ext E2
  have V_b2 : o_AV Z h2 b2 .byte (252 : Int32) (o_by (fun _ => 0)) := o_AV.congr (o_AV.new A2 (by decide)) fun i _ => (o_by0 i).symm
  refine o_go st2 ?_
  exact o_retA X2 B hret rfl rfl rfl d41_6 (by decide) e2 ⟨b2, rfl, N1, K2, V_b2, (by omega)⟩
theorem d49_0 : decode c49' 0 = .ok (.aload_n 0, 1) := by decide +kernel
theorem d49_1 : decode c49' 1 = .ok (.arraylength, 1) := by decide +kernel
theorem d49_2 : decode c49' 2 = .ok (.iconst 1, 1) := by decide +kernel
theorem d49_3 : decode c49' 3 = .ok (.ishr, 1) := by decide +kernel
theorem d49_4 : decode c49' 4 = .ok (.ireturn, 1) := by decide +kernel
theorem o_rm49_s1 (hw : o_T Z a0) (Z0 : n0 ≤ h0.size) (a_1 : Addr) (fa_a_1 : Nat → Int32) (j0 : o_AV Z h0 a_1 .byte (252 : Int32) (o_by fa_a_1)) :
    M49' l Z (o_rm 0 0 0 0) #[(.ref a_1)] h0 (fun v h L => v = some (.int 126) ∧ Fr n0 L ∧ h = h0) := by
  refine o_start (plainFor_of_name o_pn0) (L0 := #[.val (.ref a_1)]) (fun _ => rfl) fun p e s m below meth c s₁ hx hby hml hown hnm hret hZ X0 e0 B H => ?_
  have N0 := Fr.nil n0
  have z0 : n0 ≤ h0.size := Z0
  have z1 := o_lt j0.lt
  refine xa X0 B d49_0 rfl rfl ?_
  refine xl X0 B H e0 j0 d49_1 ?_
  refine xc X0 B d49_2 1 rfl ?_
  refine xshr X0 B d49_3 (126) rfl ?_
  exact o_retI X0 B hret (Or.inl rfl) rfl d49_4 (by decide) e0 ⟨rfl, N0, rfl⟩
theorem d51_0 : decode c51' 0 = .ok (.iload_n 2, 1) := by decide +kernel
theorem d51_1 : decode c51' 1 = .ok (.iload_n 0, 1) := by decide +kernel
theorem d51_2 : decode c51' 2 = .ok (.ior, 1) := by decide +kernel
theorem d51_3 : decode c51' 3 = .ok (.iload_n 1, 1) := by decide +kernel
theorem d51_4 : decode c51' 4 = .ok (.ior, 1) := by decide +kernel
theorem d51_5 : decode c51' 5 = .ok (.ifCond .lt 10, 3) := by decide +kernel
theorem d51_8 : decode c51' 8 = .ok (.iload_n 1, 1) := by decide +kernel
theorem d51_9 : decode c51' 9 = .ok (.iload_n 2, 1) := by decide +kernel
theorem d51_10 : decode c51' 10 = .ok (.iload_n 0, 1) := by decide +kernel
theorem d51_11 : decode c51' 11 = .ok (.isub, 1) := by decide +kernel
theorem d51_12 : decode c51' 12 = .ok (.if_icmp .le 11, 3) := by decide +kernel
theorem d51_23 : decode c51' 23 = .ok (.iload_n 0, 1) := by decide +kernel
theorem d51_24 : decode c51' 24 = .ok (.ireturn, 1) := by decide +kernel
theorem o_rm51_s1 (hw : o_T Z a0) (Z0 : n0 ≤ h0.size) (a_4 : Value) (hgcat_a_4 : a_4.category = 1) :
    M51' l Z (o_rm 0 0 0 0) #[(.int 0), (.int 62), (.int 126), a_4] h0 (fun v h L => v = some (.int 0) ∧ Fr n0 L ∧ h = h0) := by
  refine o_start (plainFor_of_name o_pn10) (L0 := #[.val (.int 0), .val (.int 62), .val (.int 126), .val a_4]) (fun _ => by simp [entryFrame, mkF, argsToLocals, hgcat_a_4, (show ∀ x, (Value.int x).category = 1 from fun _ => rfl)]) fun p e s m below meth c s₁ hx hby hml hown hnm hret hZ X0 e0 B H => ?_
  have N0 := Fr.nil n0
  have z0 : n0 ≤ h0.size := Z0
  refine xi X0 B d51_0 rfl ?_
  refine xi X0 B d51_1 rfl ?_
  refine o_go (fun _ k => XS.ior X0.here hx rfl (hb hby d51_2) rfl k) ?_
  show o_Go _ _ _ _ s₁ (mkF m 3 #[.val (.int 0), .val (.int 62), .val (.int 126), .val a_4] [(.int 126)])
  refine xi X0 B d51_3 rfl ?_
  refine o_go (fun _ k => XS.ior X0.here hx rfl (hb hby d51_4) rfl k) ?_
  show o_Go _ _ _ _ s₁ (mkF m 5 #[.val (.int 0), .val (.int 62), .val (.int 126), .val a_4] [(.int 126)])
  have hc1 : ¬ ((126 : Int32) < 0) := by decide
  refine xn X0 B d51_5 (XT.i0_lt_f hc1) ?_
  refine xi X0 B d51_8 rfl ?_
  refine xi X0 B d51_9 rfl ?_
  refine xi X0 B d51_10 rfl ?_
  refine xsub X0 B d51_11 (126) rfl ?_
  have hc2 : ¬ ((126 : Int32) < (62 : Int32)) := by decide
  refine xM X0 B 12 23 rfl d51_12 (XT.ii_le_t hc2) (by decide) ?_
  refine xi X0 B d51_23 rfl ?_
  exact o_retI X0 B hret (Or.inl rfl) rfl d51_24 (by decide) e0 ⟨rfl, N0, rfl⟩
theorem d50_0 : decode c50' 0 = .ok (.iload_n 0, 1) := by decide +kernel
theorem d50_1 : decode c50' 1 = .ok (.iload_n 1, 1) := by decide +kernel
theorem d50_2 : decode c50' 2 = .ok (.iload_n 2, 1) := by decide +kernel
theorem d50_3 : decode c50' 3 = .ok (.getstatic 1053, 3) := by decide +kernel
theorem d50_6 : decode c50' 6 = .ok (.invokestatic 1065, 3) := by decide +kernel
theorem d50_9 : decode c50' 9 = .ok (.ireturn, 1) := by decide +kernel
theorem o_rm50_s1 (hw : o_T Z a0) (Z0 : n0 ≤ h0.size) (j0 : o_G Z h0) :
    M50' l Z (o_rm 1 0 0 15) #[(.int 0), (.int 62), (.int 126)] h0 (fun v h L => v = some (.int 0) ∧ Fr n0 L ∧ h = h0) := by
  refine o_start (plainFor_of_name o_pn2) (L0 := #[.val (.int 0), .val (.int 62), .val (.int 126)]) (fun _ => rfl) fun p e s m below meth c s₁ hx hby hml hown hnm hret hZ X0 e0 B H => ?_
  have N0 := Fr.nil n0
  have z0 : n0 ≤ h0.size := Z0
  refine xi X0 B d50_0 rfl ?_
  refine xi X0 B d50_1 rfl ?_
  refine xi X0 B d50_2 rfl ?_
  refine o_gs X0 B H (o_h hw 262 rfl) e0 j0.2.2.2.2.1 d50_3 fun T1 X1 e1 => ?_
  refine o_cst X1 B H e1 (o_rm51_s1 (n0 := n0) hw (by omega) (o_fm Z)  (o_hfm j0)) (o_h hw 264 rfl) (o_h hw 265 rfl) (o_h hw 263 rfl) (o_h hw 266 rfl) rfl (lenOf o_pd34 rfl) rfl rfl (W := 0) rfl d50_6 (by decide) ?_
  rintro _ T2 L2 X2 ⟨rfl, N2q, e2⟩
  have N2 := Fr.app N0 N2q
  exact o_retI X2 B hret (Or.inl rfl) rfl d50_9 (by decide) e2 ⟨rfl, N2, rfl⟩
theorem d48_0 : decode c48' 0 = .ok (.iload_n 0, 1) := by decide +kernel
theorem d48_1 : decode c48' 1 = .ok (.iload_n 1, 1) := by decide +kernel
theorem d48_2 : decode c48' 2 = .ok (.aload_n 2, 1) := by decide +kernel
theorem d48_3 : decode c48' 3 = .ok (.invokestatic 48, 3) := by decide +kernel
theorem d48_6 : decode c48' 6 = .ok (.invokestatic 419, 3) := by decide +kernel
theorem d48_9 : decode c48' 9 = .ok (.pop, 1) := by decide +kernel
theorem d48_10 : decode c48' 10 = .ok (.return_, 1) := by decide +kernel
theorem o_rm48_s1 (hw : o_T Z a0) (Z0 : n0 ≤ h0.size) (a_3 : Addr) (fa_a_3 : Nat → Int32) (j0 : o_AV Z h0 a_3 .byte (252 : Int32) (o_by fa_a_3)) (j1 : o_G Z h0) :
    M48' l Z (o_rm 2 0 0 29) #[(.int 0), (.int 62), (.ref a_3)] h0 (fun v h L => v = none ∧ Fr n0 L ∧ h = h0) := by
  refine o_start (plainFor_of_name o_pn0) (L0 := #[.val (.int 0), .val (.int 62), .val (.ref a_3)]) (fun _ => rfl) fun p e s m below meth c s₁ hx hby hml hown hnm hret hZ X0 e0 B H => ?_
  have N0 := Fr.nil n0
  have z0 : n0 ≤ h0.size := Z0
  have z1 := o_lt j0.lt
  refine xi X0 B d48_0 rfl ?_
  refine xi X0 B d48_1 rfl ?_
  refine xa X0 B d48_2 rfl rfl ?_
  refine o_cst X0 B H e0 (o_rm49_s1 (n0 := n0) hw (by omega) a_3 fa_a_3 j0) (o_h hw 256 rfl) (o_h hw 257 rfl) (o_w213 hw) (o_h hw 258 rfl) rfl (lenOf o_pd33 rfl) rfl rfl (W := 2) rfl d48_3 (by decide) ?_
  rintro _ T2 L2 X2 ⟨rfl, N2q, e2⟩
  have N2 := Fr.app N0 N2q
  refine o_cst X2 B H e2 (o_rm50_s1 (n0 := n0) hw (by omega)   j1) (o_h hw 259 rfl) (o_h hw 260 rfl) (o_w2 hw) (o_h hw 261 rfl) rfl (lenOf o_pd17 rfl) rfl rfl (W := 0) rfl d48_6 (by decide) ?_
  rintro _ T3 L3 X3 ⟨rfl, N3q, e3⟩
  have N3 := Fr.app N2 N3q
  refine xp X3 B d48_9 rfl ?_
  exact o_retV X3 B hret d48_10 (by decide) e3 ⟨rfl, N3, rfl⟩
theorem d47_0 : decode c47' 0 = .ok (.iload_n 3, 1) := by decide +kernel
theorem d47_1 : decode c47' 1 = .ok (.iload 4, 2) := by decide +kernel
theorem d47_3 : decode c47' 3 = .ok (.aload_n 2, 1) := by decide +kernel
theorem d47_4 : decode c47' 4 = .ok (.invokestatic 173, 3) := by decide +kernel
theorem d47_7 : decode c47' 7 = .ok (.iconst 0, 1) := by decide +kernel
theorem d47_8 : decode c47' 8 = .ok (.istore 5, 2) := by decide +kernel
theorem d47_10 : decode c47' 10 = .ok (.iload 5, 2) := by decide +kernel
theorem d47_12 : decode c47' 12 = .ok (.iload 4, 2) := by decide +kernel
theorem d47_14 : decode c47' 14 = .ok (.if_icmp .ge 27, 3) := by decide +kernel
theorem d47_17 : decode c47' 17 = .ok (.aload_n 2, 1) := by decide +kernel
theorem d47_18 : decode c47' 18 = .ok (.iload_n 3, 1) := by decide +kernel
theorem d47_19 : decode c47' 19 = .ok (.iinc 3 1, 3) := by decide +kernel
theorem d47_22 : decode c47' 22 = .ok (.aload_n 0, 1) := by decide +kernel
theorem d47_23 : decode c47' 23 = .ok (.iload_n 1, 1) := by decide +kernel
theorem d47_24 : decode c47' 24 = .ok (.iinc 1 1, 3) := by decide +kernel
theorem d47_27 : decode c47' 27 = .ok (.baload, 1) := by decide +kernel
theorem d47_28 : decode c47' 28 = .ok (.sipush 255, 3) := by decide +kernel
theorem d47_31 : decode c47' 31 = .ok (.iand, 1) := by decide +kernel
theorem d47_32 : decode c47' 32 = .ok (.invokestatic 111, 3) := by decide +kernel
theorem d47_35 : decode c47' 35 = .ok (.iinc 5 1, 3) := by decide +kernel
theorem d47_38 : decode c47' 38 = .ok (.goto (-28), 3) := by decide +kernel
theorem d47_41 : decode c47' 41 = .ok (.return_, 1) := by decide +kernel
theorem o_t47_s1_0 (i4 : Nat) (hlt4 : i4 < 62) : (Int32.ofNat i4) < (62 : Int32) := by
  exact (o_ixb (n := 62) hlt4 (by decide)).2
theorem o_t47_s1_1   : ¬ ((Int32.ofNat 62) < (62 : Int32)) := by
  decide
theorem o_rm47_s1 (hw : o_T Z a0) (Z0 : n0 ≤ h0.size) (a_1 a_3 : Addr) (fa_a_1 fa_a_3 : Nat → Int32) (j0 : o_AV Z h0 a_1 .byte (126 : Int32) (o_by fa_a_1)) (j1 : o_AV Z h0 a_3 .byte (252 : Int32) (o_by fa_a_3)) (j2 : o_G Z h0) (hd_a_1_a_3 : o_df a_1 a_3) (gw_a_3 : n0 ≤ a_3) :
    M47' l Z (o_rm 3 0 0 43) #[(.ref a_1), (.int 0), (.ref a_3), (.int 0), (.int 62)] h0 (fun v h L => v = none ∧ Fr n0 L ∧ Keep h0 h [a_3] ∧ o_AV Z h a_3 .byte (252 : Int32) (o_by (o_inf fa_a_1 0 fa_a_3 62))) := by
  refine o_start (plainFor_of_name o_pn0) (L0 := #[.val (.ref a_1), .val (.int 0), .val (.ref a_3), .val (.int 0), .val (.int 62), .unset]) (fun _ => rfl) fun p e s m below meth c s₁ hx hby hml hown hnm hret hZ X0 e0 B H => ?_
  have N0 := Fr.nil n0
  have z0 : n0 ≤ h0.size := Z0
  have z1 := o_lt j0.lt
  have z2 := o_lt j1.lt
  have K0 : Keep h0 h0 [a_3] := Keep.refl h0 _
  refine xi X0 B d47_0 rfl ?_
  refine xI X0 B d47_1 rfl ?_
  refine xa X0 B d47_3 rfl rfl ?_
  refine o_cst X0 B H e0 (o_rm48_s1 (n0 := n0) hw (by omega) a_3 fa_a_3 j1 j2) (o_h hw 253 rfl) (o_h hw 254 rfl) (o_w213 hw) (o_h hw 255 rfl) rfl (lenOf o_pd35 rfl) rfl rfl (W := 0) rfl d47_4 (by decide) ?_
  rintro _ T3 L3 X3 ⟨rfl, N3q, e3⟩
  have N3 := Fr.app N0 N3q
  refine xc X3 B d47_7 0 rfl ?_
  refine xS X3 B d47_8 (l' := #[.val (.ref a_1), .val (.int 0), .val (.ref a_3), .val (.int 0), .val (.int 62), .val (.int 0)]) rfl ?_
  refine o_loop (n := 62) (Inv := fun iI TI gI => ∃ (LI : List Loc) (hI : Heap), Stand p l e (o_rm 3 0 0 43) s m #[(.ref a_1), (.int 0), (.ref a_3), (.int 0), (.int 62)] below meth c TI LI 0 0 ∧ TI.heap = hI ∧ Fr n0 LI ∧ Keep h0 hI [a_3] ∧ o_AV Z hI a_1 .byte (126 : Int32) (o_by fa_a_1) ∧ o_AV Z hI a_3 .byte (252 : Int32) (o_by (o_inf fa_a_1 0 fa_a_3 iI)) ∧ o_G Z hI ∧ gI = mkF m 10 #[.val (.ref a_1), .val (.int (Int32.ofNat iI)), .val (.ref a_3), .val (.int (Int32.ofNat (0 + iI))), .val (.int 62), .val (.int (Int32.ofNat iI))] []) ?_ ?_ ⟨_, h0, X3, e3, N3, K0, j0, (by rw [o_inf_0]; exact j1), j2, rfl⟩
  · rintro i4 T4a g4a hlt4 ⟨L4a, h4a, X4a, e4a, N4a, K4a, f4a_0, f4a_1, f4a_2, rfl⟩ ag4
    have z5 := K4a.1
    have z6 := o_lt f4a_0.lt
    have z7 := o_lt f4a_1.lt
    show o_Go _ _ _ _ T4a (mkF m 10 #[.val (.ref a_1), .val (.int (Int32.ofNat i4)), .val (.ref a_3), .val (.int (Int32.ofNat (0 + i4))), .val (.int 62), .val (.int (Int32.ofNat i4))] [])
    refine xI X4a B d47_10 rfl ?_
    refine xI X4a B d47_12 rfl ?_
    have hc8 : (Int32.ofNat i4) < (62 : Int32) := o_t47_s1_0 i4 hlt4
    refine xm X4a B d47_14 (XT.ii_ge_f hc8) ?_
    refine xa X4a B d47_17 rfl rfl ?_
    refine xi X4a B d47_18 rfl ?_
    refine o_go (fun _ k => XS.iinc X4a.here hx rfl (hb hby d47_19) rfl (l' := #[.val (.ref a_1), .val (.int (Int32.ofNat i4)), .val (.ref a_3), .val (.int ((Int32.ofNat (0 + i4)) + (1 : Int32))), .val (.int 62), .val (.int (Int32.ofNat i4))]) rfl k) ?_
    show o_Go _ _ _ _ T4a (mkF m 22 #[.val (.ref a_1), .val (.int (Int32.ofNat i4)), .val (.ref a_3), .val (.int ((Int32.ofNat (0 + i4)) + (1 : Int32))), .val (.int 62), .val (.int (Int32.ofNat i4))] [(.int (Int32.ofNat (0 + i4))), (.ref a_3)])
    rw [o_inc]
    show o_Go _ _ _ _ T4a (mkF m 22 #[.val (.ref a_1), .val (.int (Int32.ofNat i4)), .val (.ref a_3), .val (.int (Int32.ofNat ((0 + i4) + 1))), .val (.int 62), .val (.int (Int32.ofNat i4))] [(.int (Int32.ofNat (0 + i4))), (.ref a_3)])
    refine xa X4a B d47_22 rfl rfl ?_
    refine xi X4a B d47_23 rfl ?_
    refine o_go (fun _ k => XS.iinc X4a.here hx rfl (hb hby d47_24) rfl (l' := #[.val (.ref a_1), .val (.int ((Int32.ofNat i4) + (1 : Int32))), .val (.ref a_3), .val (.int (Int32.ofNat ((0 + i4) + 1))), .val (.int 62), .val (.int (Int32.ofNat i4))]) rfl k) ?_
    show o_Go _ _ _ _ T4a (mkF m 27 #[.val (.ref a_1), .val (.int ((Int32.ofNat i4) + (1 : Int32))), .val (.ref a_3), .val (.int (Int32.ofNat ((0 + i4) + 1))), .val (.int 62), .val (.int (Int32.ofNat i4))] [(.int (Int32.ofNat i4)), (.ref a_1), (.int (Int32.ofNat (0 + i4))), (.ref a_3)])
    rw [o_inc]
    show o_Go _ _ _ _ T4a (mkF m 27 #[.val (.ref a_1), .val (.int (Int32.ofNat (i4 + 1))), .val (.ref a_3), .val (.int (Int32.ofNat ((0 + i4) + 1))), .val (.int 62), .val (.int (Int32.ofNat i4))] [(.int (Int32.ofNat i4)), (.ref a_1), (.int (Int32.ofNat (0 + i4))), (.ref a_3)])
    obtain ⟨q9, c9, R9, s9, t9⟩ := id f4a_0
    have hin9 : ¬ ((Int32.ofNat i4) < 0 ∨ c9.slots.size ≤ ((Int32.ofNat i4)).toNatClampNeg) := inb_of s9 (o_ixb (z := (126 : Int32)) (n := 126) (by omega) (by decide))
    have u9 : c9.slots[((Int32.ofNat i4)).toNatClampNeg]? = some (.int ((fa_a_1 i4).toInt8.toInt32)) := o_at (k := i4) t9 s9 hin9 (o_tn (by omega)) (rfl)
    refine o_go (fun _ k => X4a.baloadBytes hx (j := (Int32.ofNat i4)) (v := (.int ((fa_a_1 i4).toInt8.toInt32))) (by rw [e4a]; exact R9.1) (State.isArrayOf_alike hZ.alike R9.2.1) R9.2.2 hin9 u9 (g := (mkF m 27 #[.val (.ref a_1), .val (.int (Int32.ofNat (i4 + 1))), .val (.ref a_3), .val (.int (Int32.ofNat ((0 + i4) + 1))), .val (.int 62), .val (.int (Int32.ofNat i4))] [(.int (Int32.ofNat i4)), (.ref a_1), (.int (Int32.ofNat (0 + i4))), (.ref a_3)])) rfl rfl (hb hby d47_27) _ k) ?_
    show o_Go _ _ _ _ T4a (mkF m 28 #[.val (.ref a_1), .val (.int (Int32.ofNat (i4 + 1))), .val (.ref a_3), .val (.int (Int32.ofNat ((0 + i4) + 1))), .val (.int 62), .val (.int (Int32.ofNat i4))] [(.int ((fa_a_1 i4).toInt8.toInt32)), (.int (Int32.ofNat (0 + i4))), (.ref a_3)])
    refine xh X4a B d47_28 255 rfl ?_
    refine xand X4a B d47_31 _ rfl ?_
    refine o_cst X4a B H e4a (o_rm43 (n0 := n0) hw (by omega) a_3 (Int32.ofNat (0 + i4)) (((fa_a_1 i4).toInt8.toInt32) &&& (255 : Int32)) (o_inf fa_a_1 0 fa_a_3 i4) (252 : Int32) (0 + i4) f4a_2 f4a_1 rfl (o_hb (n := 252) (by decide) (by omega)) (by omega)) (o_h hw 231 rfl) (o_h hw 232 rfl) (o_w213 hw) (o_h hw 233 rfl) rfl (lenOf o_pd7 rfl) rfl rfl (W := 0) rfl d47_32 (by decide) ?_
    rintro _ T10 L10 X10 ⟨rfl, N10q, K10q, f11⟩
    have N10 := Fr.app N4a N10q
    have z12 := K10q.1
    have K10 := K4a.trans K10q (allS (Or.inl o_m0) all0)
    have z13 := o_lt f11.lt
    refine o_go (fun _ k => XS.iinc X10.here hx rfl (hb hby d47_35) rfl (l' := #[.val (.ref a_1), .val (.int (Int32.ofNat (i4 + 1))), .val (.ref a_3), .val (.int (Int32.ofNat ((0 + i4) + 1))), .val (.int 62), .val (.int ((Int32.ofNat i4) + (1 : Int32)))]) rfl k) ?_
    show o_Go _ _ _ _ T10 (mkF m 38 #[.val (.ref a_1), .val (.int (Int32.ofNat (i4 + 1))), .val (.ref a_3), .val (.int (Int32.ofNat ((0 + i4) + 1))), .val (.int 62), .val (.int ((Int32.ofNat i4) + (1 : Int32)))] [])
    rw [o_inc]
    show o_Go _ _ _ _ T10 (mkF m 38 #[.val (.ref a_1), .val (.int (Int32.ofNat (i4 + 1))), .val (.ref a_3), .val (.int (Int32.ofNat ((0 + i4) + 1))), .val (.int 62), .val (.int (Int32.ofNat (i4 + 1)))] [])
    refine xg X10 B 38 10 rfl d47_38 (by decide) ?_
    have f14 := (f4a_0.keep K10q (ninS hd_a_1_a_3 nin0))
    have f15 := (f4a_2.keep K10q (allS (o_AV.plain f4a_1) all0))
    exact ag4 _ _ ⟨_, T10.heap, X10, rfl, N10, K10, f14, (by rw [← o_inf_s]; exact f11), f15, rfl⟩
  · rintro T4b g4b ⟨L4b, h4b, X4b, e4b, N4b, K4b, f4b_0, f4b_1, f4b_2, rfl⟩
    have z16 := K4b.1
    have z17 := o_lt f4b_0.lt
    have z18 := o_lt f4b_1.lt
    show o_Go _ _ _ _ T4b (mkF m 10 #[.val (.ref a_1), .val (.int (Int32.ofNat 62)), .val (.ref a_3), .val (.int (Int32.ofNat (0 + 62))), .val (.int 62), .val (.int (Int32.ofNat 62))] [])
    refine xI X4b B d47_10 rfl ?_
    refine xI X4b B d47_12 rfl ?_
    have hc19 : ¬ ((Int32.ofNat 62) < (62 : Int32)) := o_t47_s1_1  
    refine xM X4b B 14 41 rfl d47_14 (XT.ii_ge_t hc19) (by decide) ?_
    exact o_retV X4b B hret d47_41 (by decide) e4b ⟨rfl, N4b, K4b, f4b_1⟩
theorem d46_0 : decode c46' 0 = .ok (.aload_n 0, 1) := by decide +kernel
theorem d46_1 : decode c46' 1 = .ok (.iload_n 1, 1) := by decide +kernel
theorem d46_2 : decode c46' 2 = .ok (.aload_n 2, 1) := by decide +kernel
theorem d46_3 : decode c46' 3 = .ok (.iload_n 3, 1) := by decide +kernel
theorem d46_4 : decode c46' 4 = .ok (.iload 4, 2) := by decide +kernel
theorem d46_6 : decode c46' 6 = .ok (.invokestatic 240, 3) := by decide +kernel
theorem d46_9 : decode c46' 9 = .ok (.return_, 1) := by decide +kernel
theorem o_rm46_s1 (hw : o_T Z a0) (Z0 : n0 ≤ h0.size) (a_1 a_3 : Addr) (fa_a_1 fa_a_3 : Nat → Int32) (j0 : o_AV Z h0 a_1 .byte (126 : Int32) (o_by fa_a_1)) (j1 : o_AV Z h0 a_3 .byte (252 : Int32) (o_by fa_a_3)) (j2 : o_G Z h0) (hd_a_1_a_3 : o_df a_1 a_3) (gw_a_3 : n0 ≤ a_3) :
    M46' l Z (o_rm 4 0 0 60) #[(.ref a_1), (.int 0), (.ref a_3), (.int 0), (.int 62)] h0 (fun v h L => v = none ∧ Fr n0 L ∧ Keep h0 h [a_3] ∧ o_AV Z h a_3 .byte (252 : Int32) (o_by (o_inf fa_a_1 0 fa_a_3 62))) := by
  refine o_start (plainFor_of_name o_pn1) (L0 := #[.val (.ref a_1), .val (.int 0), .val (.ref a_3), .val (.int 0), .val (.int 62)]) (fun _ => rfl) fun p e s m below meth c s₁ hx hby hml hown hnm hret hZ X0 e0 B H => ?_
  have N0 := Fr.nil n0
  have z0 : n0 ≤ h0.size := Z0
  have z1 := o_lt j0.lt
  have z2 := o_lt j1.lt
  have K0 : Keep h0 h0 [a_3] := Keep.refl h0 _
  refine xa X0 B d46_0 rfl rfl ?_
  refine xi X0 B d46_1 rfl ?_
  refine xa X0 B d46_2 rfl rfl ?_
  refine xi X0 B d46_3 rfl ?_
  refine xI X0 B d46_4 rfl ?_
  refine o_cst X0 B H e0 (o_rm47_s1 (n0 := n0) hw (by omega) a_1 a_3 fa_a_1 fa_a_3 j0 j1 j2 hd_a_1_a_3 (by omega)) (o_h hw 250 rfl) (o_h hw 251 rfl) (o_w213 hw) (o_h hw 252 rfl) rfl (lenOf o_pd36 rfl) rfl rfl (W := 0) rfl d46_6 (by decide) ?_
  rintro _ T3 L3 X3 ⟨rfl, N3q, K3q, f4⟩
  have N3 := Fr.app N0 N3q
  have z5 := K3q.1
  have K3 := K0.trans K3q (allS (Or.inl o_m0) all0)
  have z6 := o_lt f4.lt
  exact o_retV X3 B hret d46_9 (by decide) rfl ⟨rfl, N3, K3, f4⟩
theorem d45_0 : decode c45' 0 = .ok (.aload_n 0, 1) := by decide +kernel
theorem d45_1 : decode c45' 1 = .ok (.invokevirtual 83, 3) := by decide +kernel
theorem d45_4 : decode c45' 4 = .ok (.ifCond .ne 4, 3) := by decide +kernel
theorem d45_8 : decode c45' 8 = .ok (.aload_n 0, 1) := by decide +kernel
theorem d45_9 : decode c45' 9 = .ok (.getfield 15, 3) := by decide +kernel
theorem d45_12 : decode c45' 12 = .ok (.arraylength, 1) := by decide +kernel
theorem d45_13 : decode c45' 13 = .ok (.invokestatic 26, 3) := by decide +kernel
theorem d45_16 : decode c45' 16 = .ok (.astore_n 1, 1) := by decide +kernel
theorem d45_17 : decode c45' 17 = .ok (.aload_n 0, 1) := by decide +kernel
theorem d45_18 : decode c45' 18 = .ok (.getfield 15, 3) := by decide +kernel
theorem d45_21 : decode c45' 21 = .ok (.iconst 0, 1) := by decide +kernel
theorem d45_22 : decode c45' 22 = .ok (.aload_n 1, 1) := by decide +kernel
theorem d45_23 : decode c45' 23 = .ok (.iconst 0, 1) := by decide +kernel
theorem d45_24 : decode c45' 24 = .ok (.aload_n 0, 1) := by decide +kernel
theorem d45_25 : decode c45' 25 = .ok (.getfield 79, 3) := by decide +kernel
theorem d45_28 : decode c45' 28 = .ok (.invokestatic 125, 3) := by decide +kernel
theorem d45_31 : decode c45' 31 = .ok (.aload_n 0, 1) := by decide +kernel
theorem d45_32 : decode c45' 32 = .ok (.aload_n 1, 1) := by decide +kernel
theorem d45_33 : decode c45' 33 = .ok (.putfield 15, 3) := by decide +kernel
theorem d45_36 : decode c45' 36 = .ok (.aload_n 0, 1) := by decide +kernel
theorem d45_37 : decode c45' 37 = .ok (.iconst 1, 1) := by decide +kernel
theorem d45_38 : decode c45' 38 = .ok (.putfield 22, 3) := by decide +kernel
theorem d45_41 : decode c45' 41 = .ok (.return_, 1) := by decide +kernel
theorem o_rm45_s1 (hw : o_T Z a0) (Z0 : n0 ≤ h0.size) (a_1 ob0 : Addr) (fa_ob0 : Nat → Int32) (u_0 : Value) (j0 : o_AV Z h0 ob0 .byte (126 : Int32) (o_by fa_ob0)) (j1 : o_E12 Z h0 a_1) (j2 : o_F9 Z h0 a_1 (.int 0)) (j3 : o_F10 Z h0 a_1 (.int 62)) (j4 : o_F11 Z h0 a_1 u_0) (j5 : o_F8 Z h0 a_1 (.ref ob0)) (j6 : o_G Z h0) (hd_a_1_ob0 : o_df a_1 ob0) (gw_a_1 : n0 ≤ a_1) :
    M45' l Z (o_rm 5 1 252 76) #[(.ref a_1)] h0 (fun v h L => ∃ (x_0 : Addr), v = none ∧ Fr n0 L ∧ Keep h0 h [a_1] ∧ o_E12 Z h a_1 ∧ o_F9 Z h a_1 (.int 1) ∧ o_F10 Z h a_1 (.int 62) ∧ o_F11 Z h a_1 u_0 ∧ o_F8 Z h a_1 (.ref x_0) ∧ o_AV Z h x_0 .byte (252 : Int32) (o_by (o_inf fa_ob0 0 (fun _ => 0) 62)) ∧ (h0.size ≤ x_0)) := by
  refine o_start (plainFor_of_name o_pn3) (L0 := #[.val (.ref a_1), .unset]) (fun _ => rfl) fun p e s m below meth c s₁ hx hby hml hown hnm hret hZ X0 e0 B H => ?_
  have N0 := Fr.nil n0
  have z0 : n0 ≤ h0.size := Z0
  have z1 := o_lt j0.lt
  have z2 := o_lt j1.lt
  have K0 : Keep h0 h0 [a_1] := Keep.refl h0 _
  refine xa X0 B d45_0 rfl rfl ?_
  refine o_cvi X0 B H e0 (o_rm26_s1 (n0 := n0) hw (by omega) a_1  j2 j6) (o_h hw 245 rfl) (o_h hw 149 rfl) (o_w41 hw) (o_h hw 151 rfl) (o_h hw 148 rfl) (o_w150 hw) (o_w150 hw) rfl j1 rfl (lenOf o_pd25 rfl) rfl rfl (W := 0) rfl d45_1 (by decide) ?_
  rintro _ T3 L3 X3 ⟨rfl, N3q, e3⟩
  have N3 := Fr.app N0 N3q
  have hc4 : ¬ ((1 : Int32) = 0) := by decide
  refine xy X3 B 4 8 rfl d45_4 (XT.i0_ne_t hc4) (by decide) ?_
  refine xa X3 B d45_8 rfl rfl ?_
  refine o_gf X3 B H (o_w45 hw) e3 j5 d45_9 fun T5 X5 e5 => ?_
  refine xl X5 B H e5 j0 d45_12 ?_
  refine o_cst X5 B H e5 (o_rm41_s4 (n0 := n0) hw (by omega)   ) (o_h hw 246 rfl) (o_h hw 225 rfl) (o_w213 hw) (o_h hw 226 rfl) rfl (lenOf o_pd6 rfl) rfl rfl (W := 0) rfl d45_13 (by decide) ?_
  rintro _ T6 L6 X6 ⟨x_7, rfl, N6q, K6q, f8, f9⟩
  have N6 := Fr.app N3 N6q
  have z10 := K6q.1
  have K6 := K0.trans K6q all0
  have z11 := o_lt f8.lt
  refine xt X6 B d45_16 rfl (l' := #[.val (.ref a_1), .val (.ref x_7)]) rfl ?_
  refine xa X6 B d45_17 rfl rfl ?_
  have f12 := (j5.keep K6q nin0)
  refine o_gf X6 B H (o_w45 hw) rfl f12 d45_18 fun T13 X13 e13 => ?_
  refine xc X13 B d45_21 0 rfl ?_
  refine xa X13 B d45_22 rfl rfl ?_
  refine xc X13 B d45_23 0 rfl ?_
  refine xa X13 B d45_24 rfl rfl ?_
  have f14 := (j3.keep K6q nin0)
  refine o_gf X13 B H (o_w71 hw) e13 f14 d45_25 fun T15 X15 e15 => ?_
  have f16 := (j0.keep K6q nin0)
  have f17 := (j6.keep K6q all0)
  refine o_cst X15 B H e15 (o_rm46_s1 (n0 := n0) hw (by omega) ob0 x_7 fa_ob0 (fun _ => 0) f16 f8 f17 (o_ne (by omega)) (by omega)) (o_h hw 247 rfl) (o_h hw 248 rfl) (o_w209 hw) (o_h hw 249 rfl) rfl (lenOf o_pd36 rfl) rfl rfl (W := 0) rfl d45_28 (by decide) ?_
  rintro _ T18 L18 X18 ⟨rfl, N18q, K18q, f19⟩
  have N18 := Fr.app N6 N18q
  have z20 := K18q.1
  have K18 := K6.trans K18q (allS (Or.inr (by omega)) all0)
  have z21 := o_lt f19.lt
  refine xa X18 B d45_31 rfl rfl ?_
  refine xa X18 B d45_32 rfl rfl ?_
  have f22 := ((j1.keep K6q).keep K18q)
  have f23 := (f12.keep K18q (ninS (o_ne (by omega)) nin0))
  obtain ⟨T24, h24, X24, e24, W24, st24⟩ := putF X18 hx hZ hown (host := "") (Or.inl (o_w45 hw)) Via.refl rfl f23 f22 (Or.inl (o_w46 hw)) (o_w32 hw) (ty := (.array .byte)) (by decide) rfl rfl (g := (mkF m 33 #[.val (.ref a_1), .val (.ref x_7)] [(.ref x_7), (.ref a_1)])) rfl rfl (hb hby d45_33)
  have z25 := W24.size
  have K24 := K18.wr W24 (Or.inl o_m0)
  have N24 := Fr.snoc X24 N18 (by omega : n0 ≤ a_1)
  have Fw24 : o_F8 Z h24 a_1 (.ref x_7) := Fld.same W24 f23
  refine o_go st24 ?_
  refine xa X24 B d45_36 rfl rfl ?_
  refine xc X24 B d45_37 1 rfl ?_
  have f26 := (f22.wr W24)
  have f27 := (((j2.keep K6q nin0).keep K18q (ninS (o_ne (by omega)) nin0)).other W24 (Or.inr (slot_ne (Or.inl (o_w48 hw)) (Or.inl (o_w46 hw)) (by decide) (t := .byte) (t' := (.array .byte)) (by decide) (by decide))))
  obtain ⟨T28, h28, X28, e28, W28, st28⟩ := putFN X24 hx hZ hown (o_w47 hw) Via.refl e24 f27 f26 (Or.inl (o_w48 hw)) (o_w32 hw) (ty := .byte) (v' := .int 1) (by decide) (rfl) (fits_nar_byte (1 : Int32)) (g := (mkF m 38 #[.val (.ref a_1), .val (.ref x_7)] [(.int 1), (.ref a_1)])) rfl rfl (hb hby d45_38)
  have z29 := W28.size
  have K28 := K24.wr W28 (Or.inl o_m0)
  have N28 := Fr.snoc X28 N24 (by omega : n0 ≤ a_1)
  have Fw28 : o_F9 Z h28 a_1 (.int 1) := Fld.same W28 f27
  refine o_go st28 ?_
  have f31 := (f26.wr W28)
  have f32 := (((f14.keep K18q (ninS (o_ne (by omega)) nin0)).other W24 (Or.inr (slot_ne (Or.inl (o_w72 hw)) (Or.inl (o_w46 hw)) (by decide) (t := .int) (t' := (.array .byte)) (by decide) (by decide)))).other W28 (Or.inr (slot_ne (Or.inl (o_w72 hw)) (Or.inl (o_w48 hw)) (by decide) (t := .int) (t' := .byte) (by decide) (by decide))))
  have f33 := ((((j4.keep K6q nin0).keep K18q (ninS (o_ne (by omega)) nin0)).other W24 (Or.inr (slot_ne (Or.inl (o_w269 hw)) (Or.inl (o_w46 hw)) (by decide) (t := .boolean) (t' := (.array .byte)) (by decide) (by decide)))).other W28 (Or.inr (slot_ne (Or.inl (o_w269 hw)) (Or.inl (o_w48 hw)) (by decide) (t := .boolean) (t' := .byte) (by decide) (by decide))))
  have f34 := (Fw24.other W28 (Or.inr (slot_ne (Or.inl (o_w46 hw)) (Or.inl (o_w48 hw)) (by decide) (t := (.array .byte)) (t' := .byte) (by decide) (by decide))))
  have f35 := ((f19.other W24 (o_ne (by omega))).other W28 (o_ne (by omega)))
  exact o_retV X28 B hret d45_41 (by decide) e28 ⟨x_7, rfl, N28, K28, f31, Fw28, f32, f33, f34, f35, (by omega)⟩
theorem d18_17 : decode c18' 17 = .ok (.aload_n 0, 1) := by decide +kernel
theorem d18_18 : decode c18' 18 = .ok (.invokevirtual 195, 3) := by decide +kernel
theorem o_rm18_s2 (hw : o_T Z a0) (Z0 : n0 ≤ h0.size) (a_1 a_2 ob0 : Addr) (fa_ob0 : Nat → Int32) (u_0 : Value) (j0 : o_AV Z h0 ob0 .byte (126 : Int32) (o_by fa_ob0)) (j1 : o_E12 Z h0 a_1) (j2 : o_E0 Z h0 a_2) (j3 : o_F9 Z h0 a_1 (.int 0)) (j4 : o_F10 Z h0 a_1 (.int 62)) (j5 : o_F11 Z h0 a_1 u_0) (j6 : o_F8 Z h0 a_1 (.ref ob0)) (j7 : o_F1 Z h0 a_2 (.int 1)) (j8 : o_G Z h0) (hd_a_1_a_2 : o_df a_1 a_2) (hd_a_1_ob0 : o_df a_1 ob0) (gw_a_1 : n0 ≤ a_1) :
    M18' l Z (o_rm 6 1 252 89) #[(.ref a_1), (.ref a_2)] h0 (fun v h L => ∃ (x_0 : Addr), v = none ∧ Fr n0 L ∧ Keep h0 h [a_1] ∧ o_E12 Z h a_1 ∧ o_F9 Z h a_1 (.int 1) ∧ o_F10 Z h a_1 (.int 62) ∧ o_F11 Z h a_1 u_0 ∧ o_F8 Z h a_1 (.ref x_0) ∧ o_AV Z h x_0 .byte (252 : Int32) (o_by (o_inf fa_ob0 0 (fun _ => 0) 62)) ∧ (h0.size ≤ x_0)) := by
  refine o_start (plainFor_of_name o_pn3) (L0 := #[.val (.ref a_1), .val (.ref a_2)]) (fun _ => rfl) fun p e s m below meth c s₁ hx hby hml hown hnm hret hZ X0 e0 B H => ?_
  have N0 := Fr.nil n0
  have z0 : n0 ≤ h0.size := Z0
  have z1 := o_lt j0.lt
  have z2 := o_lt j1.lt
  have z3 := o_lt j2.lt
  have K0 : Keep h0 h0 [a_1] := Keep.refl h0 _
  refine o_gs X0 B H (o_h hw 44 rfl) e0 j8.1 d18_0 fun T4 X4 e4 => ?_
  refine xn X4 B d18_3 (XT.i0_eq_f (o_hcs j8)) ?_
  refine xa X4 B d18_6 rfl rfl ?_
  refine o_gf X4 B H (o_w47 hw) e4 j3 d18_7 fun T6 X6 e6 => ?_
  refine xa X6 B d18_10 rfl rfl ?_
  refine o_cvi X6 B H e6 (o_rm10_s2 (n0 := n0) hw (by omega) a_2  j7 j8) (o_h hw 114 rfl) (o_w67 hw) (o_w2 hw) (o_w69 hw) (o_w66 hw) (o_w68 hw) (o_w68 hw) rfl j2 rfl (lenOf o_pd14 rfl) rfl rfl (W := 1) rfl d18_11 (by decide) ?_
  rintro _ T7 L7 X7 ⟨rfl, N7q, e7⟩
  have N7 := Fr.app N0 N7q
  have hc8 : ¬ ((0 : Int32) = (1 : Int32)) := by decide
  refine xm X7 B d18_14 (XT.ii_eq_f hc8) ?_
  refine xa X7 B d18_17 rfl rfl ?_
  refine o_cpr X7 B H e7 (o_rm45_s1 (n0 := n0) hw (by omega) a_1 ob0 fa_ob0 u_0 j0 j1 j3 j4 j5 j6 j8 hd_a_1_ob0 (by omega)) (o_h hw 240 rfl) (o_h hw 241 rfl) (o_w41 hw) (o_h hw 244 rfl) (o_h hw 243 rfl) (o_h hw 242 rfl) j1 rfl (lenOf o_pd13 rfl) rfl rfl (W := 0) rfl d18_18 (by decide) ?_
  rintro _ T9 L9 X9 ⟨x_10, rfl, N9q, K9q, f11, f12, f13, f14, f15, f16, f17⟩
  have N9 := Fr.app N7 N9q
  have z18 := K9q.1
  have K9 := K0.trans K9q (allS (Or.inl o_m0) all0)
  have z19 := o_lt f11.lt
  have z20 := o_lt f16.lt
  exact o_retV X9 B hret d18_21 (by decide) rfl ⟨x_10, rfl, N9, K9, f11, f12, f13, f14, f15, f16, (by omega)⟩
theorem o_rm19_s5 (hw : o_T Z a0) (Z0 : n0 ≤ h0.size) (a_1 a_2 ob0 : Addr) (fa_a_2 fa_ob0 : Nat → Int32) (j0 : o_AV Z h0 a_2 .byte (252 : Int32) (o_by fa_a_2)) (j1 : o_AV Z h0 ob0 .byte (2 : Int32) (o_by fa_ob0)) (j2 : o_E0 Z h0 a_1) (j3 : o_F1 Z h0 a_1 (.int 1)) (j4 : o_F2 Z h0 a_1 (.ref ob0)) (j5 : o_G Z h0) (hd_a_1_a_2 : o_df a_1 a_2) (hd_a_2_ob0 : o_df a_2 ob0) (gw_a_2 : n0 ≤ a_2) :
    M19' l Z (o_rm 1 0 0 40) #[(.ref a_1), (.ref a_2), (.int 62), (.int 1)] h0 (fun v h L => v = none ∧ Fr n0 L ∧ Keep h0 h [a_2] ∧ o_AV Z h a_2 .byte (252 : Int32) (o_by (o_cpi fa_ob0 0 fa_a_2 124 2))) := by
  refine o_start (plainFor_of_name o_pn2) (L0 := #[.val (.ref a_1), .val (.ref a_2), .val (.int 62), .val (.int 1)]) (fun _ => rfl) fun p e s m below meth c s₁ hx hby hml hown hnm hret hZ X0 e0 B H => ?_
  have N0 := Fr.nil n0
  have z0 : n0 ≤ h0.size := Z0
  have z1 := o_lt j0.lt
  have z2 := o_lt j1.lt
  have z3 := o_lt j2.lt
  have K0 : Keep h0 h0 [a_2] := Keep.refl h0 _
  refine xa X0 B d19_0 rfl rfl ?_
  refine o_cvi X0 B H e0 (o_rm10_s2 (n0 := n0) hw (by omega) a_1  j3 j5) (o_w65 hw) (o_w67 hw) (o_w2 hw) (o_w69 hw) (o_w66 hw) (o_w68 hw) (o_w68 hw) rfl j2 rfl (lenOf o_pd14 rfl) rfl rfl (W := 0) rfl d19_1 (by decide) ?_
  rintro _ T4 L4 X4 ⟨rfl, N4q, e4⟩
  have N4 := Fr.app N0 N4q
  refine xi X4 B d19_4 rfl ?_
  have hc5 : (1 : Int32) = (1 : Int32) := by decide
  refine xm X4 B d19_5 (XT.ii_ne_f hc5) ?_
  refine xa X4 B d19_8 rfl rfl ?_
  refine o_gf X4 B H (o_w20 hw) e4 j4 d19_9 fun T6 X6 e6 => ?_
  refine xc X6 B d19_12 0 rfl ?_
  refine xa X6 B d19_13 rfl rfl ?_
  refine xi X6 B d19_14 rfl ?_
  refine xi X6 B d19_15 rfl ?_
  refine xshl X6 B d19_16 (124) rfl ?_
  refine xa X6 B d19_17 rfl rfl ?_
  refine o_gf X6 B H (o_w20 hw) e6 j4 d19_18 fun T7 X7 e7 => ?_
  refine xl X7 B H e7 j1 d19_21 ?_
  obtain ⟨T8, h8, L8, X8, e8, N8, Kq8, V8, st8⟩ := o_cpB X7 hx hZ hown (o_h hw 120 rfl) (o_w103 hw) (o_w101 hw) (o_w102 hw) e7 j1 j0 (sp' := 0) (dp' := 124) (nn' := 2) (by decide) (by decide) (by decide) (by decide) (by decide) (by decide) (by decide) (by decide) N4 (by omega) (g := (mkF m 22 #[.val (.ref a_1), .val (.ref a_2), .val (.int 62), .val (.int 1)] [(.int 2), (.int 124), (.ref a_2), (.int 0), (.ref ob0)])) rfl (by rw [hml]; rfl) rfl (hb hby d19_22) (by decide) (W := 0) (by show 2 * 0 + _ ≤ _; exact Nat.le_of_eq rfl) (by decide)
  have z9 := Kq8.1
  have K8 := K0.trans Kq8 (allS (Or.inl o_m0) all0)
  refine o_go st8 ?_
  refine xg X8 B 25 43 rfl d19_25 (by decide) ?_
  exact o_retV X8 B hret d19_43 (by decide) e8 ⟨rfl, N8, K8, V8⟩
theorem o_rm17_s5 (hw : o_T Z a0) (Z0 : n0 ≤ h0.size) (a_1 a_3 ob0 ob1 : Addr) (fa_ob0 fa_ob1 : Nat → Int32) (u_0 : Value) (j0 : o_AV Z h0 ob0 .byte (126 : Int32) (o_by fa_ob0)) (j1 : o_AV Z h0 ob1 .byte (2 : Int32) (o_by fa_ob1)) (j2 : o_E12 Z h0 a_1) (j3 : o_E0 Z h0 a_3) (j4 : o_F9 Z h0 a_1 (.int 0)) (j5 : o_F10 Z h0 a_1 (.int 62)) (j6 : o_F11 Z h0 a_1 u_0) (j7 : o_F8 Z h0 a_1 (.ref ob0)) (j8 : o_F1 Z h0 a_3 (.int 1)) (j9 : o_F2 Z h0 a_3 (.ref ob1)) (j10 : o_G Z h0) (hd_a_1_a_3 : o_df a_1 a_3) (hd_a_1_ob0 : o_df a_1 ob0) (hd_a_1_ob1 : o_df a_1 ob1) (gw_a_1 : n0 ≤ a_1) :
    M17' l Z (o_rm 7 1 252 102) #[(.ref a_1), (.int 62), (.ref a_3)] h0 (fun v h L => ∃ (x_0 : Addr), v = none ∧ Fr n0 L ∧ Keep h0 h [a_1] ∧ o_E12 Z h a_1 ∧ o_F9 Z h a_1 (.int 1) ∧ o_F10 Z h a_1 (.int 62) ∧ o_F11 Z h a_1 u_0 ∧ o_F8 Z h a_1 (.ref x_0) ∧ o_AV Z h x_0 .byte (252 : Int32) (o_by (o_cpi fa_ob1 0 (o_inf fa_ob0 0 (fun _ => 0) 62) 124 2)) ∧ (h0.size ≤ x_0)) := by
  refine o_start (plainFor_of_name o_pn3) (L0 := #[.val (.ref a_1), .val (.int 62), .val (.ref a_3)]) (fun _ => rfl) fun p e s m below meth c s₁ hx hby hml hown hnm hret hZ X0 e0 B H => ?_
  have N0 := Fr.nil n0
  have z0 : n0 ≤ h0.size := Z0
  have z1 := o_lt j0.lt
  have z2 := o_lt j1.lt
  have z3 := o_lt j2.lt
  have z4 := o_lt j3.lt
  have K0 : Keep h0 h0 [a_1] := Keep.refl h0 _
  refine xa X0 B d17_0 rfl rfl ?_
  refine xa X0 B d17_1 rfl rfl ?_
  refine o_cpr X0 B H e0 (o_rm18_s2 (n0 := n0) hw (by omega) a_1 a_3 ob0 fa_ob0 u_0 j0 j2 j3 j4 j5 j6 j7 j8 j10 hd_a_1_a_3 hd_a_1_ob0 (by omega)) (o_h hw 109 rfl) (o_w110 hw) (o_w41 hw) (o_h hw 113 rfl) (o_h hw 112 rfl) (o_w111 hw) j2 rfl (lenOf o_pd19 rfl) rfl rfl (W := 0) rfl d17_2 (by decide) ?_
  rintro _ T5 L5 X5 ⟨x_6, rfl, N5q, K5q, f7, f8, f9, f10, f11, f12, f13⟩
  have N5 := Fr.app N0 N5q
  have z14 := K5q.1
  have K5 := K0.trans K5q (allS (Or.inl o_m0) all0)
  have z15 := o_lt f7.lt
  have z16 := o_lt f12.lt
  refine xa X5 B d17_5 rfl rfl ?_
  refine xa X5 B d17_6 rfl rfl ?_
  refine o_gf X5 B H (o_w45 hw) rfl f11 d17_7 fun T17 X17 e17 => ?_
  refine xi X17 B d17_10 rfl ?_
  refine xa X17 B d17_11 rfl rfl ?_
  refine o_gf X17 B H (o_w47 hw) e17 f8 d17_12 fun T18 X18 e18 => ?_
  have f19 := (j1.keep K5q (ninS hd_a_1_ob1.sym nin0))
  have f20 := (j3.keep K5q)
  have f21 := (j8.keep K5q (ninS hd_a_1_a_3.sym nin0))
  have f22 := (j9.keep K5q (ninS hd_a_1_a_3.sym nin0))
  have f23 := (j10.keep K5q (allS (o_exa_plain j2) all0))
  refine o_cvi X18 B H e18 (o_rm19_s5 (n0 := n0) hw (by omega) a_3 x_6 ob1 (o_inf fa_ob0 0 (fun _ => 0) 62) fa_ob1 f12 f19 f20 f21 f22 f23 (o_ne (by omega)) (o_ne (by omega)) (by omega)) (o_w115 hw) (o_w117 hw) (o_w2 hw) (o_h hw 119 rfl) (o_w116 hw) (o_w118 hw) (o_w118 hw) rfl f20 rfl (lenOf o_pd20 rfl) rfl rfl (W := 0) rfl d17_15 (by decide) ?_
  rintro _ T24 L24 X24 ⟨rfl, N24q, K24q, f25⟩
  have N24 := Fr.app N5 N24q
  have z26 := K24q.1
  have K24 := K5.trans K24q (allS (Or.inr (by omega)) all0)
  have z27 := o_lt f25.lt
  have f29 := (f7.keep K24q)
  have f30 := (f8.keep K24q (ninS (o_ne (by omega)) nin0))
  have f31 := (f9.keep K24q (ninS (o_ne (by omega)) nin0))
  have f32 := (f10.keep K24q (ninS (o_ne (by omega)) nin0))
  have f33 := (f11.keep K24q (ninS (o_ne (by omega)) nin0))
  exact o_retV X24 B hret d17_18 (by decide) rfl ⟨x_6, rfl, N24, K24, f29, f30, f31, f32, f33, f25, (by omega)⟩
theorem o_rm8_s5 (hw : o_T Z a0) (Z0 : n0 ≤ h0.size) (a_1 a_2 ob0 ob1 : Addr) (fa_ob0 fa_ob1 : Nat → Int32) (u_0 : Value) (j0 : o_AV Z h0 ob0 .byte (62 : Int32) (o_by fa_ob0)) (j1 : o_AV Z h0 ob1 .byte (2 : Int32) (o_by fa_ob1)) (j2 : o_E12 Z h0 a_1) (j3 : o_E0 Z h0 a_2) (j4 : o_F9 Z h0 a_1 (.int 0)) (j5 : o_F10 Z h0 a_1 (.int 62)) (j6 : o_F11 Z h0 a_1 u_0) (j7 : o_F8 Z h0 a_1 (.ref ob0)) (j8 : o_F1 Z h0 a_2 (.int 1)) (j9 : o_F2 Z h0 a_2 (.ref ob1)) (j10 : o_G Z h0) (hd_a_1_a_2 : o_df a_1 a_2) (hd_a_1_ob0 : o_df a_1 ob0) (hd_a_1_ob1 : o_df a_1 ob1) (gw_a_1 : n0 ≤ a_1) :
    M8' l Z (o_rm 8 2 378 116) #[(.ref a_1), (.ref a_2)] h0 (fun v h L => ∃ (x_0 : Addr), v = some (.ref a_1) ∧ Fr n0 L ∧ Keep h0 h [a_1] ∧ o_E12 Z h a_1 ∧ o_F9 Z h a_1 (.int 1) ∧ o_F10 Z h a_1 (.int 63) ∧ o_F11 Z h a_1 u_0 ∧ o_F8 Z h a_1 (.ref x_0) ∧ o_AV Z h x_0 .byte (252 : Int32) (o_by (o_cpi fa_ob1 0 (o_inf (o_cpi fa_ob0 0 (fun _ => 0) 0 62) 0 (fun _ => 0) 62) 124 2)) ∧ (h0.size ≤ x_0)) := by
  refine o_start (plainFor_of_name o_pn3) (L0 := #[.val (.ref a_1), .val (.ref a_2), .unset]) (fun _ => rfl) fun p e s m below meth c s₁ hx hby hml hown hnm hret hZ X0 e0 B H => ?_
  have N0 := Fr.nil n0
  have z0 : n0 ≤ h0.size := Z0
  have z1 := o_lt j0.lt
  have z2 := o_lt j1.lt
  have z3 := o_lt j2.lt
  have z4 := o_lt j3.lt
  have K0 : Keep h0 h0 [a_1] := Keep.refl h0 _
  refine xa X0 B d8_0 rfl rfl ?_
  refine xN X0 B 1 9 rfl d8_1 (by decide) ?_
  refine xa X0 B d8_9 rfl rfl ?_
  refine o_cvi X0 B H e0 (o_rm9_s4 (n0 := n0) hw (by omega) a_2 ob1 fa_ob1 j1 j3 j8 j9 j10) (o_w60 hw) (o_w62 hw) (o_w2 hw) (o_h hw 64 rfl) (o_w61 hw) (o_w63 hw) (o_w63 hw) rfl j3 rfl (lenOf o_pd15 rfl) rfl rfl (W := 0) rfl d8_10 (by decide) ?_
  rintro _ T5 L5 X5 ⟨rfl, N5q, e5⟩
  have N5 := Fr.app N0 N5q
  refine xs X5 B d8_13 (l' := #[.val (.ref a_1), .val (.ref a_2), .val (.int 1)]) rfl ?_
  refine xa X5 B d8_14 rfl rfl ?_
  refine xa X5 B d8_15 rfl rfl ?_
  refine o_gf X5 B H (o_w71 hw) e5 j5 d8_16 fun T6 X6 e6 => ?_
  refine xi X6 B d8_19 rfl ?_
  refine xadd X6 B d8_20 (63) rfl ?_
  refine o_cpr X6 B H e6 (o_rm11_s3 (n0 := n0) hw (by omega) a_1 ob0 fa_ob0 (.int 62) u_0 j0 j2 j4 j5 j6 j7 hd_a_1_ob0 (by omega)) (o_h hw 73 rfl) (o_w74 hw) (o_w41 hw) (o_h hw 77 rfl) (o_w76 hw) (o_w75 hw) j2 rfl (lenOf o_pd12 rfl) rfl rfl (W := 0) rfl d8_21 (by decide) ?_
  rintro _ T7 L7 X7 ⟨x_8, rfl, N7q, K7q, f9, f10, f11, f12, f13, f14, f15⟩
  have N7 := Fr.app N5 N7q
  have z16 := K7q.1
  have K7 := K0.trans K7q (allS (Or.inl o_m0) all0)
  have z17 := o_lt f9.lt
  have z18 := o_lt f14.lt
  refine xa X7 B d8_24 rfl rfl ?_
  refine xa X7 B d8_25 rfl rfl ?_
  refine o_gf X7 B H (o_w71 hw) rfl f11 d8_26 fun T19 X19 e19 => ?_
  refine xa X19 B d8_29 rfl rfl ?_
  have f20 := (j1.keep K7q (ninS hd_a_1_ob1.sym nin0))
  have f21 := (j3.keep K7q)
  have f22 := (j8.keep K7q (ninS hd_a_1_a_2.sym nin0))
  have f23 := (j9.keep K7q (ninS hd_a_1_a_2.sym nin0))
  have f24 := (j10.keep K7q (allS (o_exa_plain j2) all0))
  refine o_cpr X19 B H e19 (o_rm17_s5 (n0 := n0) hw (by omega) a_1 a_2 x_8 ob1 (o_cpi fa_ob0 0 (fun _ => 0) 0 62) fa_ob1 u_0 f14 f20 f9 f21 f10 f11 f12 f13 f22 f23 f24 hd_a_1_a_2 (o_ne (by omega)) hd_a_1_ob1 (by omega)) (o_h hw 104 rfl) (o_w105 hw) (o_w41 hw) (o_h hw 108 rfl) (o_h hw 107 rfl) (o_w106 hw) f9 rfl (lenOf o_pd21 rfl) rfl rfl (W := 0) rfl d8_30 (by decide) ?_
  rintro _ T25 L25 X25 ⟨x_26, rfl, N25q, K25q, f27, f28, f29, f30, f31, f32, f33⟩
  have N25 := Fr.app N7 N25q
  have z34 := K25q.1
  have K25 := K7.trans K25q (allS (Or.inl o_m0) all0)
  have z35 := o_lt f27.lt
  have z36 := o_lt f32.lt
  refine xa X25 B d8_33 rfl rfl ?_
  refine xd X25 B d8_34 rfl ?_
  refine o_gf X25 B H (o_w71 hw) rfl f29 d8_35 fun T37 X37 e37 => ?_
  refine xi X37 B d8_38 rfl ?_
  refine xadd X37 B d8_39 (63) rfl ?_
  obtain ⟨T38, h38, X38, e38, W38, st38⟩ := putF X37 hx hZ hown (host := "") (Or.inl (o_w71 hw)) Via.refl e37 f29 f27 (Or.inl (o_w72 hw)) (o_w32 hw) (ty := .int) (by decide) rfl rfl (g := (mkF m 40 #[.val (.ref a_1), .val (.ref a_2), .val (.int 1)] [(.int 63), (.ref a_1)])) rfl rfl (hb hby d8_40)
  have z39 := W38.size
  have K38 := K25.wr W38 (Or.inl o_m0)
  have N38 := Fr.snoc X38 N25 (by omega : n0 ≤ a_1)
  have Fw38 : o_F10 Z h38 a_1 (.int 63) := Fld.same W38 f29
  refine o_go st38 ?_
  refine xa X38 B d8_43 rfl rfl ?_
  have f41 := (f27.wr W38)
  have f42 := (f28.other W38 (Or.inr (slot_ne (Or.inl (o_w48 hw)) (Or.inl (o_w72 hw)) (by decide) (t := .byte) (t' := .int) (by decide) (by decide))))
  have f43 := (f30.other W38 (Or.inr (slot_ne (Or.inl (o_w269 hw)) (Or.inl (o_w72 hw)) (by decide) (t := .boolean) (t' := .int) (by decide) (by decide))))
  have f44 := (f31.other W38 (Or.inr (slot_ne (Or.inl (o_w46 hw)) (Or.inl (o_w72 hw)) (by decide) (t := (.array .byte)) (t' := .int) (by decide) (by decide))))
  have f45 := (f32.other W38 (o_ne (by omega)))
  exact o_retA X38 B hret rfl rfl rfl d8_44 (by decide) e38 ⟨x_26, rfl, N38, K38, f41, f42, Fw38, f43, f44, f45, (by omega)⟩
theorem o_rm7_s5 (hw : o_T Z a0) (Z0 : n0 ≤ h0.size) (a_1 a_2 ob0 ob1 : Addr) (fa_ob0 fa_ob1 : Nat → Int32) (u_0 : Value) (j0 : o_AV Z h0 ob0 .byte (62 : Int32) (o_by fa_ob0)) (j1 : o_AV Z h0 ob1 .byte (2 : Int32) (o_by fa_ob1)) (j2 : o_E12 Z h0 a_1) (j3 : o_E0 Z h0 a_2) (j4 : o_F9 Z h0 a_1 (.int 0)) (j5 : o_F10 Z h0 a_1 (.int 62)) (j6 : o_F11 Z h0 a_1 u_0) (j7 : o_F8 Z h0 a_1 (.ref ob0)) (j8 : o_F1 Z h0 a_2 (.int 1)) (j9 : o_F2 Z h0 a_2 (.ref ob1)) (j10 : o_G Z h0) (hd_a_1_a_2 : o_df a_1 a_2) (hd_a_1_ob0 : o_df a_1 ob0) (hd_a_1_ob1 : o_df a_1 ob1) (gw_a_1 : n0 ≤ a_1) :
    M7' l Z (o_rm 9 2 378 130) #[(.ref a_1), (.ref a_2)] h0 (fun v h L => ∃ (x_0 : Addr), v = some (.ref a_1) ∧ Fr n0 L ∧ Keep h0 h [a_1] ∧ o_E12 Z h a_1 ∧ o_F9 Z h a_1 (.int 1) ∧ o_F10 Z h a_1 (.int 63) ∧ o_F11 Z h a_1 u_0 ∧ o_F8 Z h a_1 (.ref x_0) ∧ o_AV Z h x_0 .byte (252 : Int32) (o_by (o_cpi fa_ob1 0 (o_inf (o_cpi fa_ob0 0 (fun _ => 0) 0 62) 0 (fun _ => 0) 62) 124 2)) ∧ (h0.size ≤ x_0)) := by
  refine o_start (plainFor_of_name o_pn4) (L0 := #[.val (.ref a_1), .val (.ref a_2)]) (fun _ => rfl) fun p e s m below meth c s₁ hx hby hml hown hnm hret hZ X0 e0 B H => ?_
  have N0 := Fr.nil n0
  have z0 : n0 ≤ h0.size := Z0
  have z1 := o_lt j0.lt
  have z2 := o_lt j1.lt
  have z3 := o_lt j2.lt
  have z4 := o_lt j3.lt
  have K0 : Keep h0 h0 [a_1] := Keep.refl h0 _
  refine xa X0 B d7_0 rfl rfl ?_
  refine xa X0 B d7_1 rfl rfl ?_
  refine o_csu X0 B H e0 (o_rm8_s5 (n0 := n0) hw (by omega) a_1 a_2 ob0 ob1 fa_ob0 fa_ob1 u_0 j0 j1 j2 j3 j4 j5 j6 j7 j8 j9 j10 hd_a_1_a_2 hd_a_1_ob0 hd_a_1_ob1 (by omega)) (o_h hw 55 rfl) (o_h hw 56 rfl) (o_w41 hw) (o_h hw 59 rfl) (o_w58 hw) (o_w76 hw) rfl (o_w57 hw) j2 (by decide) rfl (lenOf o_pd22 rfl) rfl rfl (W := 0) rfl d7_2 (by decide) ?_
  rintro _ T5 L5 X5 ⟨x_6, rfl, N5q, K5q, f7, f8, f9, f10, f11, f12, f13⟩
  have N5 := Fr.app N0 N5q
  have z14 := K5q.1
  have K5 := K0.trans K5q (allS (Or.inl o_m0) all0)
  have z15 := o_lt f7.lt
  have z16 := o_lt f12.lt
  refine xp X5 B d7_5 rfl ?_
  refine xa X5 B d7_6 rfl rfl ?_
  exact o_retA X5 B hret rfl rfl rfl d7_7 (by decide) rfl ⟨x_6, rfl, N5, K5, f7, f8, f9, f10, f11, f12, (by omega)⟩
theorem o_rm11_s5 (hw : o_T Z a0) (Z0 : n0 ≤ h0.size) (a_1 ob0 : Addr) (fa_ob0 : Nat → Int32) (j0 : o_AV Z h0 ob0 .byte (252 : Int32) (o_by fa_ob0)) (j1 : o_F9 Z h0 a_1 (.int 1)) (j2 : o_F8 Z h0 a_1 (.ref ob0)) :
    M11' l Z (o_rm 0 0 0 0) #[(.ref a_1), (.int 64)] h0 (fun v h L => v = none ∧ Fr n0 L ∧ h = h0) := by
  refine o_start (plainFor_of_name o_pn3) (L0 := #[.val (.ref a_1), .val (.int 64), .unset]) (fun _ => rfl) fun p e s m below meth c s₁ hx hby hml hown hnm hret hZ X0 e0 B H => ?_
  have N0 := Fr.nil n0
  have z0 : n0 ≤ h0.size := Z0
  have z1 := o_lt j0.lt
  have z2 := o_lt j1.lt
  refine xa X0 B d11_0 rfl rfl ?_
  refine o_gf X0 B H (o_w45 hw) e0 j2 d11_1 fun T3 X3 e3 => ?_
  refine xl X3 B H e3 j0 d11_4 ?_
  refine xa X3 B d11_5 rfl rfl ?_
  refine o_gf X3 B H (o_w47 hw) e3 j1 d11_6 fun T4 X4 e4 => ?_
  refine xshr X4 B d11_9 (126) rfl ?_
  refine xs X4 B d11_10 (l' := #[.val (.ref a_1), .val (.int 64), .val (.int 126)]) rfl ?_
  refine xi X4 B d11_11 rfl ?_
  refine xi X4 B d11_12 rfl ?_
  refine xsub X4 B d11_13 (-62) rfl ?_
  have hc5 : ¬ (0 < (-62 : Int32)) := by decide
  refine xy X4 B 14 38 rfl d11_14 (XT.i0_le_t hc5) (by decide) ?_
  exact o_retV X4 B hret d11_38 (by decide) e4 ⟨rfl, N0, rfl⟩
theorem d26_17 : decode c26' 17 = .ok (.iconst 0, 1) := by decide +kernel
theorem o_rm26_s2 (hw : o_T Z a0) (Z0 : n0 ≤ h0.size) (a_1 : Addr) (j0 : o_F9 Z h0 a_1 (.int 1)) (j1 : o_G Z h0) :
    M26' l Z (o_rm 0 0 0 0) #[(.ref a_1)] h0 (fun v h L => v = some (.int 0) ∧ Fr n0 L ∧ h = h0) := by
  refine o_start (plainFor_of_name o_pn3) (L0 := #[.val (.ref a_1)]) (fun _ => rfl) fun p e s m below meth c s₁ hx hby hml hown hnm hret hZ X0 e0 B H => ?_
  have N0 := Fr.nil n0
  have z0 : n0 ≤ h0.size := Z0
  have z1 := o_lt j0.lt
  refine o_gs X0 B H (o_h hw 44 rfl) e0 j1.1 d26_0 fun T2 X2 e2 => ?_
  refine xn X2 B d26_3 (XT.i0_eq_f (o_hcs j1)) ?_
  refine xa X2 B d26_6 rfl rfl ?_
  refine o_gf X2 B H (o_w47 hw) e2 j0 d26_7 fun T4 X4 e4 => ?_
  have hc5 : ¬ ((1 : Int32) = 0) := by decide
  refine xy X4 B 10 17 rfl d26_10 (XT.i0_ne_t hc5) (by decide) ?_
  refine xc X4 B d26_17 0 rfl ?_
  exact o_retI X4 B hret (Or.inr (Or.inl rfl)) rfl d26_18 (by decide) e4 ⟨rfl, N0, rfl⟩
theorem d45_7 : decode c45' 7 = .ok (.return_, 1) := by decide +kernel
theorem o_rm45_s2 (hw : o_T Z a0) (Z0 : n0 ≤ h0.size) (a_1 : Addr) (j0 : o_E12 Z h0 a_1) (j1 : o_F9 Z h0 a_1 (.int 1)) (j2 : o_G Z h0) :
    M45' l Z (o_rm 1 0 0 12) #[(.ref a_1)] h0 (fun v h L => v = none ∧ Fr n0 L ∧ h = h0) := by
  refine o_start (plainFor_of_name o_pn3) (L0 := #[.val (.ref a_1), .unset]) (fun _ => rfl) fun p e s m below meth c s₁ hx hby hml hown hnm hret hZ X0 e0 B H => ?_
  have N0 := Fr.nil n0
  have z0 : n0 ≤ h0.size := Z0
  have z1 := o_lt j0.lt
  refine xa X0 B d45_0 rfl rfl ?_
  refine o_cvi X0 B H e0 (o_rm26_s2 (n0 := n0) hw (by omega) a_1  j1 j2) (o_h hw 245 rfl) (o_h hw 149 rfl) (o_w41 hw) (o_h hw 151 rfl) (o_h hw 148 rfl) (o_w150 hw) (o_w150 hw) rfl j0 rfl (lenOf o_pd25 rfl) rfl rfl (W := 0) rfl d45_1 (by decide) ?_
  rintro _ T2 L2 X2 ⟨rfl, N2q, e2⟩
  have N2 := Fr.app N0 N2q
  have hc3 : (0 : Int32) = 0 := by decide
  refine xn X2 B d45_4 (XT.i0_ne_f hc3) ?_
  exact o_retV X2 B hret d45_7 (by decide) e2 ⟨rfl, N2, rfl⟩
theorem o_rm18_s3 (hw : o_T Z a0) (Z0 : n0 ≤ h0.size) (a_1 a_2 : Addr) (j0 : o_E12 Z h0 a_1) (j1 : o_E0 Z h0 a_2) (j2 : o_F9 Z h0 a_1 (.int 1)) (j3 : o_F1 Z h0 a_2 (.int 0)) (j4 : o_G Z h0) :
    M18' l Z (o_rm 2 0 0 25) #[(.ref a_1), (.ref a_2)] h0 (fun v h L => v = none ∧ Fr n0 L ∧ h = h0) := by
  refine o_start (plainFor_of_name o_pn3) (L0 := #[.val (.ref a_1), .val (.ref a_2)]) (fun _ => rfl) fun p e s m below meth c s₁ hx hby hml hown hnm hret hZ X0 e0 B H => ?_
  have N0 := Fr.nil n0
  have z0 : n0 ≤ h0.size := Z0
  have z1 := o_lt j0.lt
  have z2 := o_lt j1.lt
  refine o_gs X0 B H (o_h hw 44 rfl) e0 j4.1 d18_0 fun T3 X3 e3 => ?_
  refine xn X3 B d18_3 (XT.i0_eq_f (o_hcs j4)) ?_
  refine xa X3 B d18_6 rfl rfl ?_
  refine o_gf X3 B H (o_w47 hw) e3 j2 d18_7 fun T5 X5 e5 => ?_
  refine xa X5 B d18_10 rfl rfl ?_
  refine o_cvi X5 B H e5 (o_rm10_s1 (n0 := n0) hw (by omega) a_2  j3 j4) (o_h hw 114 rfl) (o_w67 hw) (o_w2 hw) (o_w69 hw) (o_w66 hw) (o_w68 hw) (o_w68 hw) rfl j1 rfl (lenOf o_pd14 rfl) rfl rfl (W := 1) rfl d18_11 (by decide) ?_
  rintro _ T6 L6 X6 ⟨rfl, N6q, e6⟩
  have N6 := Fr.app N0 N6q
  have hc7 : ¬ ((1 : Int32) = (0 : Int32)) := by decide
  refine xm X6 B d18_14 (XT.ii_eq_f hc7) ?_
  refine xa X6 B d18_17 rfl rfl ?_
  refine o_cpr X6 B H e6 (o_rm45_s2 (n0 := n0) hw (by omega) a_1  j0 j2 j4) (o_h hw 240 rfl) (o_h hw 241 rfl) (o_w41 hw) (o_h hw 244 rfl) (o_h hw 243 rfl) (o_h hw 242 rfl) j0 rfl (lenOf o_pd13 rfl) rfl rfl (W := 0) rfl d18_18 (by decide) ?_
  rintro _ T8 L8 X8 ⟨rfl, N8q, e8⟩
  have N8 := Fr.app N6 N8q
  exact o_retV X8 B hret d18_21 (by decide) e8 ⟨rfl, N8, rfl⟩
theorem o_rm51_s2 (hw : o_T Z a0) (Z0 : n0 ≤ h0.size) (a_4 : Value) (hgcat_a_4 : a_4.category = 1) :
    M51' l Z (o_rm 0 0 0 0) #[(.int 63), (.int 1), (.int 126), a_4] h0 (fun v h L => v = some (.int 63) ∧ Fr n0 L ∧ h = h0) := by
  refine o_start (plainFor_of_name o_pn10) (L0 := #[.val (.int 63), .val (.int 1), .val (.int 126), .val a_4]) (fun _ => by simp [entryFrame, mkF, argsToLocals, hgcat_a_4, (show ∀ x, (Value.int x).category = 1 from fun _ => rfl)]) fun p e s m below meth c s₁ hx hby hml hown hnm hret hZ X0 e0 B H => ?_
  have N0 := Fr.nil n0
  have z0 : n0 ≤ h0.size := Z0
  refine xi X0 B d51_0 rfl ?_
  refine xi X0 B d51_1 rfl ?_
  refine o_go (fun _ k => XS.ior X0.here hx rfl (hb hby d51_2) rfl k) ?_
  show o_Go _ _ _ _ s₁ (mkF m 3 #[.val (.int 63), .val (.int 1), .val (.int 126), .val a_4] [(.int 127)])
  refine xi X0 B d51_3 rfl ?_
  refine o_go (fun _ k => XS.ior X0.here hx rfl (hb hby d51_4) rfl k) ?_
  show o_Go _ _ _ _ s₁ (mkF m 5 #[.val (.int 63), .val (.int 1), .val (.int 126), .val a_4] [(.int 127)])
  have hc1 : ¬ ((127 : Int32) < 0) := by decide
  refine xn X0 B d51_5 (XT.i0_lt_f hc1) ?_
  refine xi X0 B d51_8 rfl ?_
  refine xi X0 B d51_9 rfl ?_
  refine xi X0 B d51_10 rfl ?_
  refine xsub X0 B d51_11 (63) rfl ?_
  have hc2 : ¬ ((63 : Int32) < (1 : Int32)) := by decide
  refine xM X0 B 12 23 rfl d51_12 (XT.ii_le_t hc2) (by decide) ?_
  refine xi X0 B d51_23 rfl ?_
  exact o_retI X0 B hret (Or.inl rfl) rfl d51_24 (by decide) e0 ⟨rfl, N0, rfl⟩
theorem o_rm50_s2 (hw : o_T Z a0) (Z0 : n0 ≤ h0.size) (j0 : o_G Z h0) :
    M50' l Z (o_rm 1 0 0 15) #[(.int 63), (.int 1), (.int 126)] h0 (fun v h L => v = some (.int 63) ∧ Fr n0 L ∧ h = h0) := by
  refine o_start (plainFor_of_name o_pn2) (L0 := #[.val (.int 63), .val (.int 1), .val (.int 126)]) (fun _ => rfl) fun p e s m below meth c s₁ hx hby hml hown hnm hret hZ X0 e0 B H => ?_
  have N0 := Fr.nil n0
  have z0 : n0 ≤ h0.size := Z0
  refine xi X0 B d50_0 rfl ?_
  refine xi X0 B d50_1 rfl ?_
  refine xi X0 B d50_2 rfl ?_
  refine o_gs X0 B H (o_h hw 262 rfl) e0 j0.2.2.2.2.1 d50_3 fun T1 X1 e1 => ?_
  refine o_cst X1 B H e1 (o_rm51_s2 (n0 := n0) hw (by omega) (o_fm Z)  (o_hfm j0)) (o_h hw 264 rfl) (o_h hw 265 rfl) (o_h hw 263 rfl) (o_h hw 266 rfl) rfl (lenOf o_pd34 rfl) rfl rfl (W := 0) rfl d50_6 (by decide) ?_
  rintro _ T2 L2 X2 ⟨rfl, N2q, e2⟩
  have N2 := Fr.app N0 N2q
  exact o_retI X2 B hret (Or.inl rfl) rfl d50_9 (by decide) e2 ⟨rfl, N2, rfl⟩
theorem o_rm48_s2 (hw : o_T Z a0) (Z0 : n0 ≤ h0.size) (a_3 : Addr) (fa_a_3 : Nat → Int32) (j0 : o_AV Z h0 a_3 .byte (252 : Int32) (o_by fa_a_3)) (j1 : o_G Z h0) :
    M48' l Z (o_rm 2 0 0 29) #[(.int 63), (.int 1), (.ref a_3)] h0 (fun v h L => v = none ∧ Fr n0 L ∧ h = h0) := by
  refine o_start (plainFor_of_name o_pn0) (L0 := #[.val (.int 63), .val (.int 1), .val (.ref a_3)]) (fun _ => rfl) fun p e s m below meth c s₁ hx hby hml hown hnm hret hZ X0 e0 B H => ?_
  have N0 := Fr.nil n0
  have z0 : n0 ≤ h0.size := Z0
  have z1 := o_lt j0.lt
  refine xi X0 B d48_0 rfl ?_
  refine xi X0 B d48_1 rfl ?_
  refine xa X0 B d48_2 rfl rfl ?_
  refine o_cst X0 B H e0 (o_rm49_s1 (n0 := n0) hw (by omega) a_3 fa_a_3 j0) (o_h hw 256 rfl) (o_h hw 257 rfl) (o_w213 hw) (o_h hw 258 rfl) rfl (lenOf o_pd33 rfl) rfl rfl (W := 2) rfl d48_3 (by decide) ?_
  rintro _ T2 L2 X2 ⟨rfl, N2q, e2⟩
  have N2 := Fr.app N0 N2q
  refine o_cst X2 B H e2 (o_rm50_s2 (n0 := n0) hw (by omega)   j1) (o_h hw 259 rfl) (o_h hw 260 rfl) (o_w2 hw) (o_h hw 261 rfl) rfl (lenOf o_pd17 rfl) rfl rfl (W := 0) rfl d48_6 (by decide) ?_
  rintro _ T3 L3 X3 ⟨rfl, N3q, e3⟩
  have N3 := Fr.app N2 N3q
  refine xp X3 B d48_9 rfl ?_
  exact o_retV X3 B hret d48_10 (by decide) e3 ⟨rfl, N3, rfl⟩
theorem o_t47_s2_0 (i4 : Nat) (hlt4 : i4 < 1) : (Int32.ofNat i4) < (1 : Int32) := by
  exact (o_ixb (n := 1) hlt4 (by decide)).2
theorem o_t47_s2_1   : ¬ ((Int32.ofNat 1) < (1 : Int32)) := by
  decide
theorem o_rm47_s2 (hw : o_T Z a0) (Z0 : n0 ≤ h0.size) (a_1 a_3 : Addr) (fa_a_1 fa_a_3 : Nat → Int32) (j0 : o_AV Z h0 a_1 .byte (1 : Int32) (o_by fa_a_1)) (j1 : o_AV Z h0 a_3 .byte (252 : Int32) (o_by fa_a_3)) (j2 : o_G Z h0) (hd_a_1_a_3 : o_df a_1 a_3) (gw_a_3 : n0 ≤ a_3) :
    M47' l Z (o_rm 3 0 0 43) #[(.ref a_1), (.int 0), (.ref a_3), (.int 63), (.int 1)] h0 (fun v h L => v = none ∧ Fr n0 L ∧ Keep h0 h [a_3] ∧ o_AV Z h a_3 .byte (252 : Int32) (o_by (o_inf fa_a_1 63 fa_a_3 1))) := by
  refine o_start (plainFor_of_name o_pn0) (L0 := #[.val (.ref a_1), .val (.int 0), .val (.ref a_3), .val (.int 63), .val (.int 1), .unset]) (fun _ => rfl) fun p e s m below meth c s₁ hx hby hml hown hnm hret hZ X0 e0 B H => ?_
  have N0 := Fr.nil n0
  have z0 : n0 ≤ h0.size := Z0
  have z1 := o_lt j0.lt
  have z2 := o_lt j1.lt
  have K0 : Keep h0 h0 [a_3] := Keep.refl h0 _
  refine xi X0 B d47_0 rfl ?_
  refine xI X0 B d47_1 rfl ?_
  refine xa X0 B d47_3 rfl rfl ?_
  refine o_cst X0 B H e0 (o_rm48_s2 (n0 := n0) hw (by omega) a_3 fa_a_3 j1 j2) (o_h hw 253 rfl) (o_h hw 254 rfl) (o_w213 hw) (o_h hw 255 rfl) rfl (lenOf o_pd35 rfl) rfl rfl (W := 0) rfl d47_4 (by decide) ?_
  rintro _ T3 L3 X3 ⟨rfl, N3q, e3⟩
  have N3 := Fr.app N0 N3q
  refine xc X3 B d47_7 0 rfl ?_
  refine xS X3 B d47_8 (l' := #[.val (.ref a_1), .val (.int 0), .val (.ref a_3), .val (.int 63), .val (.int 1), .val (.int 0)]) rfl ?_
  refine o_loop (n := 1) (Inv := fun iI TI gI => ∃ (LI : List Loc) (hI : Heap), Stand p l e (o_rm 3 0 0 43) s m #[(.ref a_1), (.int 0), (.ref a_3), (.int 63), (.int 1)] below meth c TI LI 0 0 ∧ TI.heap = hI ∧ Fr n0 LI ∧ Keep h0 hI [a_3] ∧ o_AV Z hI a_1 .byte (1 : Int32) (o_by fa_a_1) ∧ o_AV Z hI a_3 .byte (252 : Int32) (o_by (o_inf fa_a_1 63 fa_a_3 iI)) ∧ o_G Z hI ∧ gI = mkF m 10 #[.val (.ref a_1), .val (.int (Int32.ofNat iI)), .val (.ref a_3), .val (.int (Int32.ofNat (63 + iI))), .val (.int 1), .val (.int (Int32.ofNat iI))] []) ?_ ?_ ⟨_, h0, X3, e3, N3, K0, j0, (by rw [o_inf_0]; exact j1), j2, rfl⟩
  · rintro i4 T4a g4a hlt4 ⟨L4a, h4a, X4a, e4a, N4a, K4a, f4a_0, f4a_1, f4a_2, rfl⟩ ag4
    have z5 := K4a.1
    have z6 := o_lt f4a_0.lt
    have z7 := o_lt f4a_1.lt
    show o_Go _ _ _ _ T4a (mkF m 10 #[.val (.ref a_1), .val (.int (Int32.ofNat i4)), .val (.ref a_3), .val (.int (Int32.ofNat (63 + i4))), .val (.int 1), .val (.int (Int32.ofNat i4))] [])
    refine xI X4a B d47_10 rfl ?_
    refine xI X4a B d47_12 rfl ?_
    have hc8 : (Int32.ofNat i4) < (1 : Int32) := o_t47_s2_0 i4 hlt4
    refine xm X4a B d47_14 (XT.ii_ge_f hc8) ?_
    refine xa X4a B d47_17 rfl rfl ?_
    refine xi X4a B d47_18 rfl ?_
    refine o_go (fun _ k => XS.iinc X4a.here hx rfl (hb hby d47_19) rfl (l' := #[.val (.ref a_1), .val (.int (Int32.ofNat i4)), .val (.ref a_3), .val (.int ((Int32.ofNat (63 + i4)) + (1 : Int32))), .val (.int 1), .val (.int (Int32.ofNat i4))]) rfl k) ?_
    show o_Go _ _ _ _ T4a (mkF m 22 #[.val (.ref a_1), .val (.int (Int32.ofNat i4)), .val (.ref a_3), .val (.int ((Int32.ofNat (63 + i4)) + (1 : Int32))), .val (.int 1), .val (.int (Int32.ofNat i4))] [(.int (Int32.ofNat (63 + i4))), (.ref a_3)])
    rw [o_inc]
    show o_Go _ _ _ _ T4a (mkF m 22 #[.val (.ref a_1), .val (.int (Int32.ofNat i4)), .val (.ref a_3), .val (.int (Int32.ofNat ((63 + i4) + 1))), .val (.int 1), .val (.int (Int32.ofNat i4))] [(.int (Int32.ofNat (63 + i4))), (.ref a_3)])
    refine xa X4a B d47_22 rfl rfl ?_
    refine xi X4a B d47_23 rfl ?_
    refine o_go (fun _ k => XS.iinc X4a.here hx rfl (hb hby d47_24) rfl (l' := #[.val (.ref a_1), .val (.int ((Int32.ofNat i4) + (1 : Int32))), .val (.ref a_3), .val (.int (Int32.ofNat ((63 + i4) + 1))), .val (.int 1), .val (.int (Int32.ofNat i4))]) rfl k) ?_
    show o_Go _ _ _ _ T4a (mkF m 27 #[.val (.ref a_1), .val (.int ((Int32.ofNat i4) + (1 : Int32))), .val (.ref a_3), .val (.int (Int32.ofNat ((63 + i4) + 1))), .val (.int 1), .val (.int (Int32.ofNat i4))] [(.int (Int32.ofNat i4)), (.ref a_1), (.int (Int32.ofNat (63 + i4))), (.ref a_3)])
    rw [o_inc]
    show o_Go _ _ _ _ T4a (mkF m 27 #[.val (.ref a_1), .val (.int (Int32.ofNat (i4 + 1))), .val (.ref a_3), .val (.int (Int32.ofNat ((63 + i4) + 1))), .val (.int 1), .val (.int (Int32.ofNat i4))] [(.int (Int32.ofNat i4)), (.ref a_1), (.int (Int32.ofNat (63 + i4))), (.ref a_3)])
    obtain ⟨q9, c9, R9, s9, t9⟩ := id f4a_0
    have hin9 : ¬ ((Int32.ofNat i4) < 0 ∨ c9.slots.size ≤ ((Int32.ofNat i4)).toNatClampNeg) := inb_of s9 (o_ixb (z := (1 : Int32)) (n := 1) (by omega) (by decide))
    have u9 : c9.slots[((Int32.ofNat i4)).toNatClampNeg]? = some (.int ((fa_a_1 i4).toInt8.toInt32)) := o_at (k := i4) t9 s9 hin9 (o_tn (by omega)) (rfl)
    refine o_go (fun _ k => X4a.baloadBytes hx (j := (Int32.ofNat i4)) (v := (.int ((fa_a_1 i4).toInt8.toInt32))) (by rw [e4a]; exact R9.1) (State.isArrayOf_alike hZ.alike R9.2.1) R9.2.2 hin9 u9 (g := (mkF m 27 #[.val (.ref a_1), .val (.int (Int32.ofNat (i4 + 1))), .val (.ref a_3), .val (.int (Int32.ofNat ((63 + i4) + 1))), .val (.int 1), .val (.int (Int32.ofNat i4))] [(.int (Int32.ofNat i4)), (.ref a_1), (.int (Int32.ofNat (63 + i4))), (.ref a_3)])) rfl rfl (hb hby d47_27) _ k) ?_
    show o_Go _ _ _ _ T4a (mkF m 28 #[.val (.ref a_1), .val (.int (Int32.ofNat (i4 + 1))), .val (.ref a_3), .val (.int (Int32.ofNat ((63 + i4) + 1))), .val (.int 1), .val (.int (Int32.ofNat i4))] [(.int ((fa_a_1 i4).toInt8.toInt32)), (.int (Int32.ofNat (63 + i4))), (.ref a_3)])
    refine xh X4a B d47_28 255 rfl ?_
    refine xand X4a B d47_31 _ rfl ?_
    refine o_cst X4a B H e4a (o_rm43 (n0 := n0) hw (by omega) a_3 (Int32.ofNat (63 + i4)) (((fa_a_1 i4).toInt8.toInt32) &&& (255 : Int32)) (o_inf fa_a_1 63 fa_a_3 i4) (252 : Int32) (63 + i4) f4a_2 f4a_1 rfl (o_hb (n := 252) (by decide) (by omega)) (by omega)) (o_h hw 231 rfl) (o_h hw 232 rfl) (o_w213 hw) (o_h hw 233 rfl) rfl (lenOf o_pd7 rfl) rfl rfl (W := 0) rfl d47_32 (by decide) ?_
    rintro _ T10 L10 X10 ⟨rfl, N10q, K10q, f11⟩
    have N10 := Fr.app N4a N10q
    have z12 := K10q.1
    have K10 := K4a.trans K10q (allS (Or.inl o_m0) all0)
    have z13 := o_lt f11.lt
    refine o_go (fun _ k => XS.iinc X10.here hx rfl (hb hby d47_35) rfl (l' := #[.val (.ref a_1), .val (.int (Int32.ofNat (i4 + 1))), .val (.ref a_3), .val (.int (Int32.ofNat ((63 + i4) + 1))), .val (.int 1), .val (.int ((Int32.ofNat i4) + (1 : Int32)))]) rfl k) ?_
    show o_Go _ _ _ _ T10 (mkF m 38 #[.val (.ref a_1), .val (.int (Int32.ofNat (i4 + 1))), .val (.ref a_3), .val (.int (Int32.ofNat ((63 + i4) + 1))), .val (.int 1), .val (.int ((Int32.ofNat i4) + (1 : Int32)))] [])
    rw [o_inc]
    show o_Go _ _ _ _ T10 (mkF m 38 #[.val (.ref a_1), .val (.int (Int32.ofNat (i4 + 1))), .val (.ref a_3), .val (.int (Int32.ofNat ((63 + i4) + 1))), .val (.int 1), .val (.int (Int32.ofNat (i4 + 1)))] [])
    refine xg X10 B 38 10 rfl d47_38 (by decide) ?_
    have f14 := (f4a_0.keep K10q (ninS hd_a_1_a_3 nin0))
    have f15 := (f4a_2.keep K10q (allS (o_AV.plain f4a_1) all0))
    exact ag4 _ _ ⟨_, T10.heap, X10, rfl, N10, K10, f14, (by rw [← o_inf_s]; exact f11), f15, rfl⟩
  · rintro T4b g4b ⟨L4b, h4b, X4b, e4b, N4b, K4b, f4b_0, f4b_1, f4b_2, rfl⟩
    have z16 := K4b.1
    have z17 := o_lt f4b_0.lt
    have z18 := o_lt f4b_1.lt
    show o_Go _ _ _ _ T4b (mkF m 10 #[.val (.ref a_1), .val (.int (Int32.ofNat 1)), .val (.ref a_3), .val (.int (Int32.ofNat (63 + 1))), .val (.int 1), .val (.int (Int32.ofNat 1))] [])
    refine xI X4b B d47_10 rfl ?_
    refine xI X4b B d47_12 rfl ?_
    have hc19 : ¬ ((Int32.ofNat 1) < (1 : Int32)) := o_t47_s2_1  
    refine xM X4b B 14 41 rfl d47_14 (XT.ii_ge_t hc19) (by decide) ?_
    exact o_retV X4b B hret d47_41 (by decide) e4b ⟨rfl, N4b, K4b, f4b_1⟩
theorem o_rm46_s2 (hw : o_T Z a0) (Z0 : n0 ≤ h0.size) (a_1 a_3 : Addr) (fa_a_1 fa_a_3 : Nat → Int32) (j0 : o_AV Z h0 a_1 .byte (1 : Int32) (o_by fa_a_1)) (j1 : o_AV Z h0 a_3 .byte (252 : Int32) (o_by fa_a_3)) (j2 : o_G Z h0) (hd_a_1_a_3 : o_df a_1 a_3) (gw_a_3 : n0 ≤ a_3) :
    M46' l Z (o_rm 4 0 0 60) #[(.ref a_1), (.int 0), (.ref a_3), (.int 63), (.int 1)] h0 (fun v h L => v = none ∧ Fr n0 L ∧ Keep h0 h [a_3] ∧ o_AV Z h a_3 .byte (252 : Int32) (o_by (o_inf fa_a_1 63 fa_a_3 1))) := by
  refine o_start (plainFor_of_name o_pn1) (L0 := #[.val (.ref a_1), .val (.int 0), .val (.ref a_3), .val (.int 63), .val (.int 1)]) (fun _ => rfl) fun p e s m below meth c s₁ hx hby hml hown hnm hret hZ X0 e0 B H => ?_
  have N0 := Fr.nil n0
  have z0 : n0 ≤ h0.size := Z0
  have z1 := o_lt j0.lt
  have z2 := o_lt j1.lt
  have K0 : Keep h0 h0 [a_3] := Keep.refl h0 _
  refine xa X0 B d46_0 rfl rfl ?_
  refine xi X0 B d46_1 rfl ?_
  refine xa X0 B d46_2 rfl rfl ?_
  refine xi X0 B d46_3 rfl ?_
  refine xI X0 B d46_4 rfl ?_
  refine o_cst X0 B H e0 (o_rm47_s2 (n0 := n0) hw (by omega) a_1 a_3 fa_a_1 fa_a_3 j0 j1 j2 hd_a_1_a_3 (by omega)) (o_h hw 250 rfl) (o_h hw 251 rfl) (o_w213 hw) (o_h hw 252 rfl) rfl (lenOf o_pd36 rfl) rfl rfl (W := 0) rfl d46_6 (by decide) ?_
  rintro _ T3 L3 X3 ⟨rfl, N3q, K3q, f4⟩
  have N3 := Fr.app N0 N3q
  have z5 := K3q.1
  have K3 := K0.trans K3q (allS (Or.inl o_m0) all0)
  have z6 := o_lt f4.lt
  exact o_retV X3 B hret d46_9 (by decide) rfl ⟨rfl, N3, K3, f4⟩
theorem d19_28 : decode c19' 28 = .ok (.aload_n 0, 1) := by decide +kernel
theorem d19_29 : decode c19' 29 = .ok (.getfield 9, 3) := by decide +kernel
theorem d19_32 : decode c19' 32 = .ok (.iconst 0, 1) := by decide +kernel
theorem d19_33 : decode c19' 33 = .ok (.aload_n 1, 1) := by decide +kernel
theorem d19_34 : decode c19' 34 = .ok (.iload_n 2, 1) := by decide +kernel
theorem d19_35 : decode c19' 35 = .ok (.aload_n 0, 1) := by decide +kernel
theorem d19_36 : decode c19' 36 = .ok (.getfield 9, 3) := by decide +kernel
theorem d19_39 : decode c19' 39 = .ok (.arraylength, 1) := by decide +kernel
theorem d19_40 : decode c19' 40 = .ok (.invokestatic 106, 3) := by decide +kernel
theorem o_rm19_s6 (hw : o_T Z a0) (Z0 : n0 ≤ h0.size) (a_1 a_2 ob0 : Addr) (fa_a_2 fa_ob0 : Nat → Int32) (j0 : o_AV Z h0 a_2 .byte (252 : Int32) (o_by fa_a_2)) (j1 : o_AV Z h0 ob0 .byte (1 : Int32) (o_by fa_ob0)) (j2 : o_E0 Z h0 a_1) (j3 : o_F1 Z h0 a_1 (.int 0)) (j4 : o_F2 Z h0 a_1 (.ref ob0)) (j5 : o_G Z h0) (hd_a_1_a_2 : o_df a_1 a_2) (hd_a_2_ob0 : o_df a_2 ob0) (gw_a_2 : n0 ≤ a_2) :
    M19' l Z (o_rm 5 0 0 76) #[(.ref a_1), (.ref a_2), (.int 63), (.int 1)] h0 (fun v h L => v = none ∧ Fr n0 L ∧ Keep h0 h [a_2] ∧ o_AV Z h a_2 .byte (252 : Int32) (o_by (o_inf fa_ob0 63 fa_a_2 1))) := by
  refine o_start (plainFor_of_name o_pn2) (L0 := #[.val (.ref a_1), .val (.ref a_2), .val (.int 63), .val (.int 1)]) (fun _ => rfl) fun p e s m below meth c s₁ hx hby hml hown hnm hret hZ X0 e0 B H => ?_
  have N0 := Fr.nil n0
  have z0 : n0 ≤ h0.size := Z0
  have z1 := o_lt j0.lt
  have z2 := o_lt j1.lt
  have z3 := o_lt j2.lt
  have K0 : Keep h0 h0 [a_2] := Keep.refl h0 _
  refine xa X0 B d19_0 rfl rfl ?_
  refine o_cvi X0 B H e0 (o_rm10_s1 (n0 := n0) hw (by omega) a_1  j3 j5) (o_w65 hw) (o_w67 hw) (o_w2 hw) (o_w69 hw) (o_w66 hw) (o_w68 hw) (o_w68 hw) rfl j2 rfl (lenOf o_pd14 rfl) rfl rfl (W := 0) rfl d19_1 (by decide) ?_
  rintro _ T4 L4 X4 ⟨rfl, N4q, e4⟩
  have N4 := Fr.app N0 N4q
  refine xi X4 B d19_4 rfl ?_
  have hc5 : ¬ ((0 : Int32) = (1 : Int32)) := by decide
  refine xM X4 B 5 28 rfl d19_5 (XT.ii_ne_t hc5) (by decide) ?_
  refine xa X4 B d19_28 rfl rfl ?_
  refine o_gf X4 B H (o_w20 hw) e4 j4 d19_29 fun T6 X6 e6 => ?_
  refine xc X6 B d19_32 0 rfl ?_
  refine xa X6 B d19_33 rfl rfl ?_
  refine xi X6 B d19_34 rfl ?_
  refine xa X6 B d19_35 rfl rfl ?_
  refine o_gf X6 B H (o_w20 hw) e6 j4 d19_36 fun T7 X7 e7 => ?_
  refine xl X7 B H e7 j1 d19_39 ?_
  refine o_cst X7 B H e7 (o_rm46_s2 (n0 := n0) hw (by omega) ob0 a_2 fa_ob0 fa_a_2 j1 j0 j5 hd_a_2_ob0.sym (by omega)) (o_h hw 267 rfl) (o_h hw 248 rfl) (o_w209 hw) (o_h hw 249 rfl) rfl (lenOf o_pd36 rfl) rfl rfl (W := 0) rfl d19_40 (by decide) ?_
  rintro _ T8 L8 X8 ⟨rfl, N8q, K8q, f9⟩
  have N8 := Fr.app N4 N8q
  have z10 := K8q.1
  have K8 := K0.trans K8q (allS (Or.inl o_m0) all0)
  have z11 := o_lt f9.lt
  exact o_retV X8 B hret d19_43 (by decide) rfl ⟨rfl, N8, K8, f9⟩
theorem o_rm17_s6 (hw : o_T Z a0) (Z0 : n0 ≤ h0.size) (a_1 a_3 ob0 ob1 : Addr) (fa_ob0 fa_ob1 : Nat → Int32) (j0 : o_AV Z h0 ob0 .byte (252 : Int32) (o_by fa_ob0)) (j1 : o_AV Z h0 ob1 .byte (1 : Int32) (o_by fa_ob1)) (j2 : o_E12 Z h0 a_1) (j3 : o_E0 Z h0 a_3) (j4 : o_F9 Z h0 a_1 (.int 1)) (j5 : o_F8 Z h0 a_1 (.ref ob0)) (j6 : o_F1 Z h0 a_3 (.int 0)) (j7 : o_F2 Z h0 a_3 (.ref ob1)) (j8 : o_G Z h0) (hd_a_1_ob0 : o_df a_1 ob0) (hd_a_3_ob0 : o_df a_3 ob0) (hd_ob0_ob1 : o_df ob0 ob1) (gw_ob0 : n0 ≤ ob0) :
    M17' l Z (o_rm 6 0 0 91) #[(.ref a_1), (.int 63), (.ref a_3)] h0 (fun v h L => v = none ∧ Fr n0 L ∧ Keep h0 h [ob0] ∧ o_AV Z h ob0 .byte (252 : Int32) (o_by (o_inf fa_ob1 63 fa_ob0 1))) := by
  refine o_start (plainFor_of_name o_pn3) (L0 := #[.val (.ref a_1), .val (.int 63), .val (.ref a_3)]) (fun _ => rfl) fun p e s m below meth c s₁ hx hby hml hown hnm hret hZ X0 e0 B H => ?_
  have N0 := Fr.nil n0
  have z0 : n0 ≤ h0.size := Z0
  have z1 := o_lt j0.lt
  have z2 := o_lt j1.lt
  have z3 := o_lt j2.lt
  have z4 := o_lt j3.lt
  have K0 : Keep h0 h0 [ob0] := Keep.refl h0 _
  refine xa X0 B d17_0 rfl rfl ?_
  refine xa X0 B d17_1 rfl rfl ?_
  refine o_cpr X0 B H e0 (o_rm18_s3 (n0 := n0) hw (by omega) a_1 a_3  j2 j3 j4 j6 j8) (o_h hw 109 rfl) (o_w110 hw) (o_w41 hw) (o_h hw 113 rfl) (o_h hw 112 rfl) (o_w111 hw) j2 rfl (lenOf o_pd19 rfl) rfl rfl (W := 0) rfl d17_2 (by decide) ?_
  rintro _ T5 L5 X5 ⟨rfl, N5q, e5⟩
  have N5 := Fr.app N0 N5q
  refine xa X5 B d17_5 rfl rfl ?_
  refine xa X5 B d17_6 rfl rfl ?_
  refine o_gf X5 B H (o_w45 hw) e5 j5 d17_7 fun T6 X6 e6 => ?_
  refine xi X6 B d17_10 rfl ?_
  refine xa X6 B d17_11 rfl rfl ?_
  refine o_gf X6 B H (o_w47 hw) e6 j4 d17_12 fun T7 X7 e7 => ?_
  refine o_cvi X7 B H e7 (o_rm19_s6 (n0 := n0) hw (by omega) a_3 ob0 ob1 fa_ob0 fa_ob1 j0 j1 j3 j6 j7 j8 hd_a_3_ob0 hd_ob0_ob1 (by omega)) (o_w115 hw) (o_w117 hw) (o_w2 hw) (o_h hw 119 rfl) (o_w116 hw) (o_w118 hw) (o_w118 hw) rfl j3 rfl (lenOf o_pd20 rfl) rfl rfl (W := 0) rfl d17_15 (by decide) ?_
  rintro _ T8 L8 X8 ⟨rfl, N8q, K8q, f9⟩
  have N8 := Fr.app N5 N8q
  have z10 := K8q.1
  have K8 := K0.trans K8q (allS (Or.inl o_m0) all0)
  have z11 := o_lt f9.lt
  exact o_retV X8 B hret d17_18 (by decide) rfl ⟨rfl, N8, K8, f9⟩
theorem o_rm8_s6 (hw : o_T Z a0) (Z0 : n0 ≤ h0.size) (a_1 a_2 ob0 ob1 : Addr) (fa_ob0 fa_ob1 : Nat → Int32) (u_0 : Value) (j0 : o_AV Z h0 ob0 .byte (252 : Int32) (o_by fa_ob0)) (j1 : o_AV Z h0 ob1 .byte (1 : Int32) (o_by fa_ob1)) (j2 : o_E12 Z h0 a_1) (j3 : o_E0 Z h0 a_2) (j4 : o_F9 Z h0 a_1 (.int 1)) (j5 : o_F10 Z h0 a_1 (.int 63)) (j6 : o_F11 Z h0 a_1 u_0) (j7 : o_F8 Z h0 a_1 (.ref ob0)) (j8 : o_F1 Z h0 a_2 (.int 0)) (j9 : o_F2 Z h0 a_2 (.ref ob1)) (j10 : o_G Z h0) (hd_a_1_a_2 : o_df a_1 a_2) (hd_a_1_ob0 : o_df a_1 ob0) (hd_a_1_ob1 : o_df a_1 ob1) (hd_a_2_ob0 : o_df a_2 ob0) (hd_ob0_ob1 : o_df ob0 ob1) (gw_ob0 : n0 ≤ ob0) (gw_a_1 : n0 ≤ a_1) :
    M8' l Z (o_rm 7 0 0 105) #[(.ref a_1), (.ref a_2)] h0 (fun v h L => v = some (.ref a_1) ∧ Fr n0 L ∧ Keep h0 h [ob0, a_1] ∧ o_AV Z h ob0 .byte (252 : Int32) (o_by (o_inf fa_ob1 63 fa_ob0 1)) ∧ o_E12 Z h a_1 ∧ o_F9 Z h a_1 (.int 1) ∧ o_F10 Z h a_1 (.int 64) ∧ o_F11 Z h a_1 u_0 ∧ o_F8 Z h a_1 (.ref ob0)) := by
  refine o_start (plainFor_of_name o_pn3) (L0 := #[.val (.ref a_1), .val (.ref a_2), .unset]) (fun _ => rfl) fun p e s m below meth c s₁ hx hby hml hown hnm hret hZ X0 e0 B H => ?_
  have N0 := Fr.nil n0
  have z0 : n0 ≤ h0.size := Z0
  have z1 := o_lt j0.lt
  have z2 := o_lt j1.lt
  have z3 := o_lt j2.lt
  have z4 := o_lt j3.lt
  have K0 : Keep h0 h0 [ob0, a_1] := Keep.refl h0 _
  refine xa X0 B d8_0 rfl rfl ?_
  refine xN X0 B 1 9 rfl d8_1 (by decide) ?_
  refine xa X0 B d8_9 rfl rfl ?_
  refine o_cvi X0 B H e0 (o_rm9_s3 (n0 := n0) hw (by omega) a_2 ob1 fa_ob1 j1 j3 j8 j9 j10) (o_w60 hw) (o_w62 hw) (o_w2 hw) (o_h hw 64 rfl) (o_w61 hw) (o_w63 hw) (o_w63 hw) rfl j3 rfl (lenOf o_pd15 rfl) rfl rfl (W := 0) rfl d8_10 (by decide) ?_
  rintro _ T5 L5 X5 ⟨rfl, N5q, e5⟩
  have N5 := Fr.app N0 N5q
  refine xs X5 B d8_13 (l' := #[.val (.ref a_1), .val (.ref a_2), .val (.int 1)]) rfl ?_
  refine xa X5 B d8_14 rfl rfl ?_
  refine xa X5 B d8_15 rfl rfl ?_
  refine o_gf X5 B H (o_w71 hw) e5 j5 d8_16 fun T6 X6 e6 => ?_
  refine xi X6 B d8_19 rfl ?_
  refine xadd X6 B d8_20 (64) rfl ?_
  refine o_cpr X6 B H e6 (o_rm11_s5 (n0 := n0) hw (by omega) a_1 ob0 fa_ob0 j0 j4 j7) (o_h hw 73 rfl) (o_w74 hw) (o_w41 hw) (o_h hw 77 rfl) (o_w76 hw) (o_w75 hw) j2 rfl (lenOf o_pd12 rfl) rfl rfl (W := 0) rfl d8_21 (by decide) ?_
  rintro _ T7 L7 X7 ⟨rfl, N7q, e7⟩
  have N7 := Fr.app N5 N7q
  refine xa X7 B d8_24 rfl rfl ?_
  refine xa X7 B d8_25 rfl rfl ?_
  refine o_gf X7 B H (o_w71 hw) e7 j5 d8_26 fun T8 X8 e8 => ?_
  refine xa X8 B d8_29 rfl rfl ?_
  refine o_cpr X8 B H e8 (o_rm17_s6 (n0 := n0) hw (by omega) a_1 a_2 ob0 ob1 fa_ob0 fa_ob1 j0 j1 j2 j3 j4 j7 j8 j9 j10 hd_a_1_ob0 hd_a_2_ob0 hd_ob0_ob1 (by omega)) (o_h hw 104 rfl) (o_w105 hw) (o_w41 hw) (o_h hw 108 rfl) (o_h hw 107 rfl) (o_w106 hw) j2 rfl (lenOf o_pd21 rfl) rfl rfl (W := 0) rfl d8_30 (by decide) ?_
  rintro _ T9 L9 X9 ⟨rfl, N9q, K9q, f10⟩
  have N9 := Fr.app N7 N9q
  have z11 := K9q.1
  have K9 := K0.trans K9q (allS (Or.inl o_m0) all0)
  have z12 := o_lt f10.lt
  refine xa X9 B d8_33 rfl rfl ?_
  refine xd X9 B d8_34 rfl ?_
  have f13 := (j5.keep K9q (ninS hd_a_1_ob0 nin0))
  refine o_gf X9 B H (o_w71 hw) rfl f13 d8_35 fun T14 X14 e14 => ?_
  refine xi X14 B d8_38 rfl ?_
  refine xadd X14 B d8_39 (64) rfl ?_
  have f15 := (j2.keep K9q)
  obtain ⟨T16, h16, X16, e16, W16, st16⟩ := putF X14 hx hZ hown (host := "") (Or.inl (o_w71 hw)) Via.refl e14 f13 f15 (Or.inl (o_w72 hw)) (o_w32 hw) (ty := .int) (by decide) rfl rfl (g := (mkF m 40 #[.val (.ref a_1), .val (.ref a_2), .val (.int 1)] [(.int 64), (.ref a_1)])) rfl rfl (hb hby d8_40)
  have z17 := W16.size
  have K16 := K9.wr W16 (Or.inl (List.mem_of_getElem? (i := 1) rfl))
  have N16 := Fr.snoc X16 N9 (by omega : n0 ≤ a_1)
  have Fw16 : o_F10 Z h16 a_1 (.int 64) := Fld.same W16 f13
  refine o_go st16 ?_
  refine xa X16 B d8_43 rfl rfl ?_
  have f19 := (f10.other W16 hd_a_1_ob0.sym)
  have f20 := (f15.wr W16)
  have f21 := ((j4.keep K9q (ninS hd_a_1_ob0 nin0)).other W16 (Or.inr (slot_ne (Or.inl (o_w48 hw)) (Or.inl (o_w72 hw)) (by decide) (t := .byte) (t' := .int) (by decide) (by decide))))
  have f22 := ((j6.keep K9q (ninS hd_a_1_ob0 nin0)).other W16 (Or.inr (slot_ne (Or.inl (o_w269 hw)) (Or.inl (o_w72 hw)) (by decide) (t := .boolean) (t' := .int) (by decide) (by decide))))
  have f23 := ((j7.keep K9q (ninS hd_a_1_ob0 nin0)).other W16 (Or.inr (slot_ne (Or.inl (o_w46 hw)) (Or.inl (o_w72 hw)) (by decide) (t := (.array .byte)) (t' := .int) (by decide) (by decide))))
  exact o_retA X16 B hret rfl rfl rfl d8_44 (by decide) e16 ⟨rfl, N16, K16, f19, f20, f21, Fw16, f22, f23⟩
theorem o_rm7_s6 (hw : o_T Z a0) (Z0 : n0 ≤ h0.size) (a_1 a_2 ob0 ob1 : Addr) (fa_ob0 fa_ob1 : Nat → Int32) (u_0 : Value) (j0 : o_AV Z h0 ob0 .byte (252 : Int32) (o_by fa_ob0)) (j1 : o_AV Z h0 ob1 .byte (1 : Int32) (o_by fa_ob1)) (j2 : o_E12 Z h0 a_1) (j3 : o_E0 Z h0 a_2) (j4 : o_F9 Z h0 a_1 (.int 1)) (j5 : o_F10 Z h0 a_1 (.int 63)) (j6 : o_F11 Z h0 a_1 u_0) (j7 : o_F8 Z h0 a_1 (.ref ob0)) (j8 : o_F1 Z h0 a_2 (.int 0)) (j9 : o_F2 Z h0 a_2 (.ref ob1)) (j10 : o_G Z h0) (hd_a_1_a_2 : o_df a_1 a_2) (hd_a_1_ob0 : o_df a_1 ob0) (hd_a_1_ob1 : o_df a_1 ob1) (hd_a_2_ob0 : o_df a_2 ob0) (hd_ob0_ob1 : o_df ob0 ob1) (gw_ob0 : n0 ≤ ob0) (gw_a_1 : n0 ≤ a_1) :
    M7' l Z (o_rm 8 0 0 119) #[(.ref a_1), (.ref a_2)] h0 (fun v h L => v = some (.ref a_1) ∧ Fr n0 L ∧ Keep h0 h [ob0, a_1] ∧ o_AV Z h ob0 .byte (252 : Int32) (o_by (o_inf fa_ob1 63 fa_ob0 1)) ∧ o_E12 Z h a_1 ∧ o_F9 Z h a_1 (.int 1) ∧ o_F10 Z h a_1 (.int 64) ∧ o_F11 Z h a_1 u_0 ∧ o_F8 Z h a_1 (.ref ob0)) := by
  refine o_start (plainFor_of_name o_pn4) (L0 := #[.val (.ref a_1), .val (.ref a_2)]) (fun _ => rfl) fun p e s m below meth c s₁ hx hby hml hown hnm hret hZ X0 e0 B H => ?_
  have N0 := Fr.nil n0
  have z0 : n0 ≤ h0.size := Z0
  have z1 := o_lt j0.lt
  have z2 := o_lt j1.lt
  have z3 := o_lt j2.lt
  have z4 := o_lt j3.lt
  have K0 : Keep h0 h0 [ob0, a_1] := Keep.refl h0 _
  refine xa X0 B d7_0 rfl rfl ?_
  refine xa X0 B d7_1 rfl rfl ?_
  refine o_csu X0 B H e0 (o_rm8_s6 (n0 := n0) hw (by omega) a_1 a_2 ob0 ob1 fa_ob0 fa_ob1 u_0 j0 j1 j2 j3 j4 j5 j6 j7 j8 j9 j10 hd_a_1_a_2 hd_a_1_ob0 hd_a_1_ob1 hd_a_2_ob0 hd_ob0_ob1 (by omega) (by omega)) (o_h hw 55 rfl) (o_h hw 56 rfl) (o_w41 hw) (o_h hw 59 rfl) (o_w58 hw) (o_w76 hw) rfl (o_w57 hw) j2 (by decide) rfl (lenOf o_pd22 rfl) rfl rfl (W := 0) rfl d7_2 (by decide) ?_
  rintro _ T5 L5 X5 ⟨rfl, N5q, K5q, f6, f7, f8, f9, f10, f11⟩
  have N5 := Fr.app N0 N5q
  have z12 := K5q.1
  have K5 := K0.trans K5q (allS (Or.inl o_m0) (allS (Or.inl (List.mem_of_getElem? (i := 1) rfl)) all0))
  have z13 := o_lt f6.lt
  have z14 := o_lt f7.lt
  refine xp X5 B d7_5 rfl ?_
  refine xa X5 B d7_6 rfl rfl ?_
  exact o_retA X5 B hret rfl rfl rfl d7_7 (by decide) rfl ⟨rfl, N5, K5, f6, f7, f8, f9, f10, f11⟩
theorem o_rm29_s3 (hw : o_T Z a0) (Z0 : n0 ≤ h0.size) :
    M29' l Z (o_rm 0 0 0 0) #[(.int 0), (.int 128)] h0 (fun v h L => v = none ∧ Fr n0 L ∧ h = h0) := by
  refine o_start (plainFor_of_name o_pn6) (L0 := #[.val (.int 0), .val (.int 128)]) (fun _ => rfl) fun p e s m below meth c s₁ hx hby hml hown hnm hret hZ X0 e0 B H => ?_
  have N0 := Fr.nil n0
  have z0 : n0 ≤ h0.size := Z0
  refine xi X0 B d29_0 rfl ?_
  refine xi X0 B d29_1 rfl ?_
  have hc1 : ¬ ((128 : Int32) < (0 : Int32)) := by decide
  refine xM X0 B 2 37 rfl d29_2 (XT.ii_ge_t hc1) (by decide) ?_
  exact o_retV X0 B hret d29_37 (by decide) e0 ⟨rfl, N0, rfl⟩
theorem o_rm16_s5 (hw : o_T Z a0) (Z0 : n0 ≤ h0.size) :
    M16' l Z (o_rm 0 0 0 0) #[(.int 252), (.int 128)] h0 (fun v h L => v = some (.int 128) ∧ Fr n0 L ∧ h = h0) := by
  refine o_start (Jvm.Free.JP.mathPlain rfl (by decide +kernel)) (L0 := #[.val (.int 252), .val (.int 128)]) (fun _ => rfl) fun p e s m below meth c s₁ hx hby hml hown hnm hret hZ X0 e0 B H => ?_
  have N0 := Fr.nil n0
  have z0 : n0 ≤ h0.size := Z0
  refine xi X0 B d16_0 rfl ?_
  refine xi X0 B d16_1 rfl ?_
  have hc1 : (128 : Int32) < (252 : Int32) := by decide
  refine xM X0 B 2 9 rfl d16_2 (XT.ii_gt_t hc1) (by decide) ?_
  refine xi X0 B d16_9 rfl ?_
  exact o_retI X0 B hret (Or.inl rfl) rfl d16_10 (by decide) e0 ⟨rfl, N0, rfl⟩
theorem o_rm28_s3 (hw : o_T Z a0) (Z0 : n0 ≤ h0.size) (a_1 : Addr) (fa_a_1 : Nat → Int32) (j0 : o_AV Z h0 a_1 .byte (252 : Int32) (o_by fa_a_1)) :
    M28' l Z (o_rm 1 1 128 40) #[(.ref a_1), (.int 0), (.int 128)] h0 (fun v h L => ∃ (x_0 : Addr), v = some (.ref x_0) ∧ Fr n0 L ∧ Keep h0 h [] ∧ o_AV Z h x_0 .byte (128 : Int32) (o_by (o_cpi fa_a_1 0 (fun _ => 0) 0 128)) ∧ (h0.size ≤ x_0)) := by
  refine o_start (plainFor_of_name o_pn6) (L0 := #[.val (.ref a_1), .val (.int 0), .val (.int 128), .unset, .unset]) (fun _ => rfl) fun p e s m below meth c s₁ hx hby hml hown hnm hret hZ X0 e0 B H => ?_
  have N0 := Fr.nil n0
  have z0 : n0 ≤ h0.size := Z0
  have z1 := o_lt j0.lt
  have K0 : Keep h0 h0 [] := Keep.refl h0 _
  refine xi X0 B d28_0 rfl ?_
  refine xi X0 B d28_1 rfl ?_
  refine o_cst X0 B H e0 (o_rm29_s3 (n0 := n0) hw (by omega)   ) (o_h hw 158 rfl) (o_h hw 159 rfl) (o_w95 hw) (o_h hw 160 rfl) rfl (lenOf o_pd26 rfl) rfl rfl (W := 0) rfl d28_2 (by decide) ?_
  rintro _ T2 L2 X2 ⟨rfl, N2q, e2⟩
  have N2 := Fr.app N0 N2q
  refine xi X2 B d28_5 rfl ?_
  refine xi X2 B d28_6 rfl ?_
  refine xsub X2 B d28_7 (128) rfl ?_
  refine xs X2 B d28_8 (l' := #[.val (.ref a_1), .val (.int 0), .val (.int 128), .val (.int 128), .unset]) rfl ?_
  refine xi X2 B d28_9 rfl ?_
  obtain ⟨T3, h3, k3, X3, e3, E3, A3, st3⟩ := newP X2 hx hZ (hw _ (List.mem_of_getElem? (i := 15) rfl)) e2 (g := (mkF m 10 #[.val (.ref a_1), .val (.int 0), .val (.int 128), .val (.int 128), .unset] [(.int 128)])) rfl (hb hby d28_10) rfl (by decide) (cap := 128) (by decide) (by decide) (by decide) (by decide)
  obtain ⟨b3, g3⟩ : ∃ z, z = h0.size := ⟨_, rfl⟩
  rw [← g3] at A3 st3
  have z4 := E3.1
  have lt_b3 := o_lt A3.lt
  have K3 := K0.ext E3
  have V_b3 : o_AV Z h3 b3 .byte (128 : Int32) (o_by (fun _ => 0)) := o_AV.congr (o_AV.new A3 (by decide)) fun i _ => (o_by0 i).symm
  refine o_go st3 ?_
  refine xT X3 B d28_12 rfl (l' := #[.val (.ref a_1), .val (.int 0), .val (.int 128), .val (.int 128), .val (.ref b3)]) rfl ?_
  refine xa X3 B d28_14 rfl rfl ?_
  refine xi X3 B d28_15 rfl ?_
  refine xA X3 B d28_16 rfl rfl ?_
  refine xc X3 B d28_18 0 rfl ?_
  refine xa X3 B d28_19 rfl rfl ?_
  have f5 := (j0.ext E3)
  refine xl X3 B H e3 f5 d28_20 ?_
  refine xi X3 B d28_21 rfl ?_
  refine xsub X3 B d28_22 (252) rfl ?_
  refine xi X3 B d28_23 rfl ?_
  refine o_cst X3 B H e3 (o_rm16_s5 (n0 := n0) hw (by omega)   ) (o_h hw 97 rfl) (o_h hw 98 rfl) (o_w89 hw) (o_h hw 99 rfl) rfl (lenOf o_pd16 rfl) rfl rfl (W := 4) rfl d28_24 (by decide) ?_
  rintro _ T6 L6 X6 ⟨rfl, N6q, e6⟩
  have N6 := Fr.app N2 N6q
  obtain ⟨T7, h7, L7, X7, e7, N7, Kq7, V7, st7⟩ := o_cpB X6 hx hZ hown (o_h hw 100 rfl) (o_w103 hw) (o_w101 hw) (o_w102 hw) e6 f5 V_b3 (sp' := 0) (dp' := 0) (nn' := 128) (by decide) (by decide) (by decide) (by decide) (by decide) (by decide) (by decide) (by decide) N6 (by omega) (g := (mkF m 27 #[.val (.ref a_1), .val (.int 0), .val (.int 128), .val (.int 128), .val (.ref b3)] [(.int 128), (.int 0), (.ref b3), (.int 0), (.ref a_1)])) rfl (by rw [hml]; rfl) rfl (hb hby d28_27) (by decide) (W := 0) (by show 2 * 0 + _ ≤ _; exact Nat.le_of_eq rfl) (by decide)
  have z8 := Kq7.1
  have K7 := K3.trans Kq7 (allS (Or.inr (by omega)) all0)
  refine o_go st7 ?_
  refine xA X7 B d28_30 rfl rfl ?_
  exact o_retA X7 B hret rfl rfl rfl d28_32 (by decide) e7 ⟨b3, rfl, N7, K7, V7, (by omega)⟩
theorem o_rm27_s3 (hw : o_T Z a0) (Z0 : n0 ≤ h0.size) (a_1 : Addr) (fa_a_1 : Nat → Int32) (j0 : o_AV Z h0 a_1 .byte (252 : Int32) (o_by fa_a_1)) :
    M27' l Z (o_rm 2 1 128 56) #[(.ref a_1), (.int 0), (.int 128)] h0 (fun v h L => ∃ (x_0 : Addr), v = some (.ref x_0) ∧ Fr n0 L ∧ Keep h0 h [] ∧ o_AV Z h x_0 .byte (128 : Int32) (o_by (o_cpi fa_a_1 0 (fun _ => 0) 0 128)) ∧ (h0.size ≤ x_0)) := by
  refine o_start (plainFor_of_name o_pn6) (L0 := #[.val (.ref a_1), .val (.int 0), .val (.int 128)]) (fun _ => rfl) fun p e s m below meth c s₁ hx hby hml hown hnm hret hZ X0 e0 B H => ?_
  have N0 := Fr.nil n0
  have z0 : n0 ≤ h0.size := Z0
  have z1 := o_lt j0.lt
  have K0 : Keep h0 h0 [] := Keep.refl h0 _
  refine xi X0 B d27_0 rfl ?_
  have hc2 : (0 : Int32) = 0 := by decide
  refine xn X0 B d27_1 (XT.i0_ne_f hc2) ?_
  refine xi X0 B d27_4 rfl ?_
  refine xa X0 B d27_5 rfl rfl ?_
  refine xl X0 B H e0 j0 d27_6 ?_
  have hc3 : ¬ ((128 : Int32) = (252 : Int32)) := by decide
  refine xm X0 B d27_7 (XT.ii_eq_f hc3) ?_
  refine xa X0 B d27_10 rfl rfl ?_
  refine xi X0 B d27_11 rfl ?_
  refine xi X0 B d27_12 rfl ?_
  refine o_cst X0 B H e0 (o_rm28_s3 (n0 := n0) hw (by omega) a_1 fa_a_1 j0) (o_h hw 155 rfl) (o_h hw 156 rfl) (o_w95 hw) (o_h hw 157 rfl) rfl (lenOf o_pd27 rfl) rfl rfl (W := 0) rfl d27_13 (by decide) ?_
  rintro _ T4 L4 X4 ⟨x_5, rfl, N4q, K4q, f6, f7⟩
  have N4 := Fr.app N0 N4q
  have z8 := K4q.1
  have K4 := K0.trans K4q all0
  have z9 := o_lt f6.lt
  exact o_retA X4 B hret rfl rfl rfl d27_16 (by decide) rfl ⟨x_5, rfl, N4, K4, f6, (by omega)⟩
theorem d22_41 : decode c22' 41 = .ok (.getstatic 38, 3) := by decide +kernel
theorem d22_44 : decode c22' 44 = .ok (.ifCond .eq 35, 3) := by decide +kernel
theorem d22_47 : decode c22' 47 = .ok (.aload_n 1, 1) := by decide +kernel
theorem d22_48 : decode c22' 48 = .ok (.getfield 1048, 3) := by decide +kernel
theorem d22_51 : decode c22' 51 = .ok (.ifCond .eq 28, 3) := by decide +kernel
theorem d22_79 : decode c22' 79 = .ok (.aload_n 0, 1) := by decide +kernel
theorem d22_80 : decode c22' 80 = .ok (.iconst 1, 1) := by decide +kernel
theorem d22_81 : decode c22' 81 = .ok (.putfield 15, 3) := by decide +kernel
theorem d22_84 : decode c22' 84 = .ok (.aload_n 0, 1) := by decide +kernel
theorem d22_85 : decode c22' 85 = .ok (.aload_n 3, 1) := by decide +kernel
theorem d22_86 : decode c22' 86 = .ok (.iconst 0, 1) := by decide +kernel
theorem d22_87 : decode c22' 87 = .ok (.iload 4, 2) := by decide +kernel
theorem d22_89 : decode c22' 89 = .ok (.iconst 1, 1) := by decide +kernel
theorem d22_90 : decode c22' 90 = .ok (.ishl, 1) := by decide +kernel
theorem d22_91 : decode c22' 91 = .ok (.invokestatic 54, 3) := by decide +kernel
theorem d22_94 : decode c22' 94 = .ok (.putfield 9, 3) := by decide +kernel
theorem o_rm22_s3 (hw : o_T Z a0) (Z0 : n0 ≤ h0.size) (a_1 a_2 ob0 : Addr) (fa_ob0 : Nat → Int32) (u_0 u_1 : Value) (j0 : o_AV Z h0 ob0 .byte (252 : Int32) (o_by fa_ob0)) (j1 : o_E0 Z h0 a_1) (j2 : o_E12 Z h0 a_2) (j3 : o_F1 Z h0 a_1 u_0) (j4 : o_F2 Z h0 a_1 u_1) (j5 : o_F9 Z h0 a_2 (.int 1)) (j6 : o_F10 Z h0 a_2 (.int 64)) (j7 : o_F11 Z h0 a_2 (.int 0)) (j8 : o_F8 Z h0 a_2 (.ref ob0)) (j9 : o_G Z h0) (hd_a_1_a_2 : o_df a_1 a_2) (hd_a_1_ob0 : o_df a_1 ob0) (gw_a_1 : n0 ≤ a_1) :
    M22' l Z (o_rm 3 1 128 71) #[(.ref a_1), (.ref a_2), .null] h0 (fun v h L => ∃ (x_0 : Addr), v = none ∧ Fr n0 L ∧ Keep h0 h [a_1] ∧ o_E0 Z h a_1 ∧ o_F1 Z h a_1 (.int 1) ∧ o_F2 Z h a_1 (.ref x_0) ∧ o_AV Z h x_0 .byte (128 : Int32) (o_by (o_cpi fa_ob0 0 (fun _ => 0) 0 128)) ∧ (h0.size ≤ x_0)) := by
  refine o_start (plainFor_of_name o_pn2) (L0 := #[.val (.ref a_1), .val (.ref a_2), .val .null, .unset, .unset]) (fun _ => rfl) fun p e s m below meth c s₁ hx hby hml hown hnm hret hZ X0 e0 B H => ?_
  have N0 := Fr.nil n0
  have z0 : n0 ≤ h0.size := Z0
  have z1 := o_lt j0.lt
  have z2 := o_lt j1.lt
  have z3 := o_lt j2.lt
  have K0 : Keep h0 h0 [a_1] := Keep.refl h0 _
  refine xa X0 B d22_0 rfl rfl ?_
  obtain ⟨T4, X4, e4, st4⟩ := initO X0 hx hZ hown (o_w11 hw) (o_w12 hw) (o_w13 hw) e0 (g := (mkF m 1 #[.val (.ref a_1), .val (.ref a_2), .val .null, .unset, .unset] [(.ref a_1)])) rfl (by rw [hml]; rfl) rfl (hb hby d22_1) (by decide) (W := 0) (by show 2 * 0 + _ ≤ _; exact Nat.le_of_eq rfl) (by decide)
  refine o_go st4 ?_
  refine xa X4 B d22_4 rfl rfl ?_
  refine o_cvi X4 B H e4 (o_rm23_s1 (n0 := n0) hw (by omega) a_2 ob0 j8) (o_h hw 134 rfl) (o_h hw 136 rfl) (o_w41 hw) (o_h hw 138 rfl) (o_h hw 135 rfl) (o_h hw 137 rfl) (o_h hw 137 rfl) rfl j2 rfl (lenOf o_pd24 rfl) rfl rfl (W := 0) rfl d22_5 (by decide) ?_
  rintro _ T5 L5 X5 ⟨rfl, N5q, e5⟩
  have N5 := Fr.app N0 N5q
  refine xt X5 B d22_8 rfl (l' := #[.val (.ref a_1), .val (.ref a_2), .val .null, .val (.ref ob0), .unset]) rfl ?_
  refine xa X5 B d22_9 rfl rfl ?_
  refine o_cvi X5 B H e5 (o_rm24_s2 (n0 := n0) hw (by omega) a_2  j2 j6) (o_h hw 139 rfl) (o_h hw 143 rfl) (o_w33 hw) (o_h hw 144 rfl) (o_h hw 140 rfl) (o_h hw 142 rfl) (o_w76 hw) rfl j2 rfl (lenOf o_pd15 rfl) rfl rfl (W := 0) rfl d22_10 (by decide) ?_
  rintro _ T6 L6 X6 ⟨rfl, N6q, e6⟩
  have N6 := Fr.app N5 N6q
  refine xS X6 B d22_13 (l' := #[.val (.ref a_1), .val (.ref a_2), .val .null, .val (.ref ob0), .val (.int 64)]) rfl ?_
  refine xa X6 B d22_15 rfl rfl ?_
  refine o_cvi X6 B H e6 (o_rm26_s2 (n0 := n0) hw (by omega) a_2  j5 j9) (o_h hw 147 rfl) (o_h hw 149 rfl) (o_w41 hw) (o_h hw 151 rfl) (o_h hw 148 rfl) (o_w150 hw) (o_w150 hw) rfl j2 rfl (lenOf o_pd25 rfl) rfl rfl (W := 0) rfl d22_16 (by decide) ?_
  rintro _ T7 L7 X7 ⟨rfl, N7q, e7⟩
  have N7 := Fr.app N6 N7q
  have hc8 : (0 : Int32) = 0 := by decide
  refine xy X7 B 19 41 rfl d22_19 (XT.i0_eq_t hc8) (by decide) ?_
  refine o_gs X7 B H (o_w70 hw) e7 j9.1 d22_41 fun T9 X9 e9 => ?_
  refine xn X9 B d22_44 (XT.i0_eq_f (o_hcs j9)) ?_
  refine xa X9 B d22_47 rfl rfl ?_
  refine o_gf X9 B H (o_h hw 268 rfl) e9 j7 d22_48 fun T11 X11 e11 => ?_
  have hc12 : (0 : Int32) = 0 := by decide
  refine xy X11 B 51 79 rfl d22_51 (XT.i0_eq_t hc12) (by decide) ?_
  refine xa X11 B d22_79 rfl rfl ?_
  refine xc X11 B d22_80 1 rfl ?_
  obtain ⟨T13, h13, X13, e13, W13, st13⟩ := putFN X11 hx hZ hown (o_w21 hw) Via.refl e11 j3 j1 (Or.inr ⟨(o_w17 hw), rfl, hnm⟩) (o_w1 hw) (ty := .byte) (v' := .int 1) (by decide) (rfl) (fits_nar_byte (1 : Int32)) (g := (mkF m 81 #[.val (.ref a_1), .val (.ref a_2), .val .null, .val (.ref ob0), .val (.int 64)] [(.int 1), (.ref a_1)])) rfl rfl (hb hby d22_81)
  have z14 := W13.size
  have K13 := K0.wr W13 (Or.inl o_m0)
  have N13 := Fr.snoc X13 N7 (by omega : n0 ≤ a_1)
  have Fw13 : o_F1 Z h13 a_1 (.int 1) := Fld.same W13 j3
  refine o_go st13 ?_
  refine xa X13 B d22_84 rfl rfl ?_
  refine xa X13 B d22_85 rfl rfl ?_
  refine xc X13 B d22_86 0 rfl ?_
  refine xI X13 B d22_87 rfl ?_
  refine xc X13 B d22_89 1 rfl ?_
  refine xshl X13 B d22_90 (128) rfl ?_
  have f15 := (j0.other W13 hd_a_1_ob0.sym)
  refine o_cst X13 B H e13 (o_rm27_s3 (n0 := n0) hw (by omega) ob0 fa_ob0 f15) (o_h hw 152 rfl) (o_h hw 153 rfl) (o_w95 hw) (o_h hw 154 rfl) rfl (lenOf o_pd27 rfl) rfl rfl (W := 1) rfl d22_91 (by decide) ?_
  rintro _ T16 L16 X16 ⟨x_17, rfl, N16q, K16q, f18, f19⟩
  have N16 := Fr.app N13 N16q
  have z20 := K16q.1
  have K16 := K13.trans K16q all0
  have z21 := o_lt f18.lt
  have f22 := ((j1.wr W13).keep K16q)
  have f23 := ((j4.other W13 (Or.inr (slot_ne (Or.inr (o_w16 hw)) (Or.inr (o_w17 hw)) (by decide) (t := (.array .byte)) (t' := .byte) (by decide) (by decide)))).keep K16q nin0)
  obtain ⟨T24, h24, X24, e24, W24, st24⟩ := putF X16 hx hZ hown (host := "") (Or.inl (o_w20 hw)) Via.refl rfl f23 f22 (Or.inr ⟨(o_w16 hw), rfl, hnm⟩) (o_w1 hw) (ty := (.array .byte)) (by decide) rfl rfl (g := (mkF m 94 #[.val (.ref a_1), .val (.ref a_2), .val .null, .val (.ref ob0), .val (.int 64)] [(.ref x_17), (.ref a_1)])) rfl rfl (hb hby d22_94)
  have z25 := W24.size
  have K24 := K16.wr W24 (Or.inl o_m0)
  have N24 := Fr.snoc X24 N16 (by omega : n0 ≤ a_1)
  have Fw24 : o_F2 Z h24 a_1 (.ref x_17) := Fld.same W24 f23
  refine o_go st24 ?_
  have f27 := (f22.wr W24)
  have f28 := ((Fw13.keep K16q nin0).other W24 (Or.inr (slot_ne (Or.inr (o_w17 hw)) (Or.inr (o_w16 hw)) (by decide) (t := .byte) (t' := (.array .byte)) (by decide) (by decide))))
  have f29 := (f18.other W24 (o_ne (by omega)))
  exact o_retV X24 B hret d22_97 (by decide) e24 ⟨x_17, rfl, N24, K24, f27, f28, Fw24, f29, (by omega)⟩
theorem o_rm21_s3 (hw : o_T Z a0) (Z0 : n0 ≤ h0.size) (a_1 a_2 ob0 : Addr) (fa_ob0 : Nat → Int32) (u_0 u_1 : Value) (j0 : o_AV Z h0 ob0 .byte (252 : Int32) (o_by fa_ob0)) (j1 : o_E0 Z h0 a_1) (j2 : o_E12 Z h0 a_2) (j3 : o_F1 Z h0 a_1 u_0) (j4 : o_F2 Z h0 a_1 u_1) (j5 : o_F9 Z h0 a_2 (.int 1)) (j6 : o_F10 Z h0 a_2 (.int 64)) (j7 : o_F11 Z h0 a_2 (.int 0)) (j8 : o_F8 Z h0 a_2 (.ref ob0)) (j9 : o_G Z h0) (hd_a_1_a_2 : o_df a_1 a_2) (hd_a_1_ob0 : o_df a_1 ob0) (gw_a_1 : n0 ≤ a_1) :
    M21' l Z (o_rm 4 1 128 87) #[(.ref a_1), (.ref a_2)] h0 (fun v h L => ∃ (x_0 : Addr), v = none ∧ Fr n0 L ∧ Keep h0 h [a_1] ∧ o_E0 Z h a_1 ∧ o_F1 Z h a_1 (.int 1) ∧ o_F2 Z h a_1 (.ref x_0) ∧ o_AV Z h x_0 .byte (128 : Int32) (o_by (o_cpi fa_ob0 0 (fun _ => 0) 0 128)) ∧ (h0.size ≤ x_0)) := by
  refine o_start (plainFor_of_name o_pn2) (L0 := #[.val (.ref a_1), .val (.ref a_2)]) (fun _ => rfl) fun p e s m below meth c s₁ hx hby hml hown hnm hret hZ X0 e0 B H => ?_
  have N0 := Fr.nil n0
  have z0 : n0 ≤ h0.size := Z0
  have z1 := o_lt j0.lt
  have z2 := o_lt j1.lt
  have z3 := o_lt j2.lt
  have K0 : Keep h0 h0 [a_1] := Keep.refl h0 _
  refine xa X0 B d21_0 rfl rfl ?_
  refine xa X0 B d21_1 rfl rfl ?_
  refine xu X0 B d21_2 ?_
  refine o_csp (a := a_1) X0 B H e0 (o_rm22_s3 (n0 := n0) hw (by omega) a_1 a_2 ob0 fa_ob0 u_0 u_1 j0 j1 j2 j3 j4 j5 j6 j7 j8 j9 hd_a_1_a_2 hd_a_1_ob0 (by omega)) (o_h hw 131 rfl) (o_h hw 132 rfl) (o_w2 hw) (o_h hw 133 rfl) rfl rfl (lenOf o_pd28 rfl) rfl rfl (W := 0) rfl d21_3 (by decide) ?_
  rintro _ T4 L4 X4 ⟨x_5, rfl, N4q, K4q, f6, f7, f8, f9, f10⟩
  have N4 := Fr.app N0 N4q
  have z11 := K4q.1
  have K4 := K0.trans K4q (allS (Or.inl o_m0) all0)
  have z12 := o_lt f6.lt
  have z13 := o_lt f9.lt
  exact o_retV X4 B hret d21_6 (by decide) rfl ⟨x_5, rfl, N4, K4, f6, f7, f8, f9, (by omega)⟩
theorem o_rm20_s3 (hw : o_T Z a0) (Z0 : n0 ≤ h0.size) (a_1 ob0 : Addr) (fa_ob0 : Nat → Int32) (j0 : o_AV Z h0 ob0 .byte (252 : Int32) (o_by fa_ob0)) (j1 : o_E12 Z h0 a_1) (j2 : o_F9 Z h0 a_1 (.int 1)) (j3 : o_F10 Z h0 a_1 (.int 64)) (j4 : o_F11 Z h0 a_1 (.int 0)) (j5 : o_F8 Z h0 a_1 (.ref ob0)) (j6 : o_G Z h0) :
    M20' l Z (o_rm 5 2 132 101) #[(.ref a_1)] h0 (fun v h L => ∃ (x_0 : Addr) (x_1 : Addr), v = some (.ref x_0) ∧ Fr n0 L ∧ Keep h0 h [] ∧ o_E0 Z h x_0 ∧ o_F1 Z h x_0 (.int 1) ∧ o_F2 Z h x_0 (.ref x_1) ∧ o_AV Z h x_1 .byte (128 : Int32) (o_by (o_cpi fa_ob0 0 (fun _ => 0) 0 128)) ∧ (h0.size ≤ x_0) ∧ (h0.size ≤ x_1) ∧ (o_lts [x_0, x_1])) := by
  refine o_start (plainFor_of_name o_pn4) (L0 := #[.val (.ref a_1)]) (fun _ => rfl) fun p e s m below meth c s₁ hx hby hml hown hnm hret hZ X0 e0 B H => ?_
  have N0 := Fr.nil n0
  have z0 : n0 ≤ h0.size := Z0
  have z1 := o_lt j0.lt
  have z2 := o_lt j1.lt
  have K0 : Keep h0 h0 [] := Keep.refl h0 _
  obtain ⟨T3, h3, X3, e3, E3, A3, D3, Y3, st3⟩ := newO X0 hx hZ hown (o_h hw 127 rfl) (o_w1 hw) (o_w2 hw) e0 (g := (mkF m 0 #[.val (.ref a_1)] [])) rfl (hb hby d20_0) (by decide) (by decide)
  obtain ⟨b3, g3⟩ : ∃ z, z = h0.size := ⟨_, rfl⟩
  rw [← g3] at A3 D3 Y3 st3
  have z4 := E3.1
  have lt_b3 := o_lt A3.lt
  have K3 := K0.ext E3
  have F_value_b3 : o_F2 Z h3 b3 .null := D3 (Or.inr (o_w16 hw)) (ty := (.array .byte)) (by decide)
  have F_coder_b3 : o_F1 Z h3 b3 (.int 0) := D3 (Or.inr (o_w17 hw)) (ty := .byte) (by decide)
  refine o_go st3 ?_
  refine xd X3 B d20_3 rfl ?_
  refine xa X3 B d20_4 rfl rfl ?_
  have f5 := (j0.ext E3)
  have f6 := (j1.ext E3)
  have f7 := (j2.ext E3)
  have f8 := (j3.ext E3)
  have f9 := (j4.ext E3)
  have f10 := (j5.ext E3)
  have f11 := (j6.ext E3)
  refine o_csp (a := b3) X3 B H e3 (o_rm21_s3 (n0 := n0) hw (by omega) b3 a_1 ob0 fa_ob0 (.int 0) .null f5 A3 f6 F_coder_b3 F_value_b3 f7 f8 f9 f10 f11 (o_ne (by omega)) (o_ne (by omega)) (by omega)) (o_h hw 128 rfl) (o_h hw 129 rfl) (o_w2 hw) (o_h hw 130 rfl) rfl rfl (lenOf o_pd29 rfl) rfl rfl (W := 1) rfl d20_5 (by decide) ?_
  rintro _ T12 L12 X12 ⟨x_13, rfl, N12q, K12q, f14, f15, f16, f17, f18⟩
  have N12 := Fr.app N0 N12q
  have z19 := K12q.1
  have K12 := K3.trans K12q (allS (Or.inr (by omega)) all0)
  have z20 := o_lt f14.lt
  have z21 := o_lt f17.lt
  exact o_retA X12 B hret rfl rfl rfl d20_8 (by decide) rfl ⟨b3, x_13, rfl, N12, K12, f14, f15, f16, f17, (by omega), (by omega), (by simp only [o_lts, and_true]; omega)⟩
theorem o_ef_own_rm4_k1U (m : MethodId) (x0 : Addr) : entryFrame m #[(.ref x0)] 1 = mkF m 0 #[.val (.ref x0)] [] := by first | (simp [entryFrame, mkF, argsToLocals, Value.category]; done) | rfl
def o_Q4_k1U (Z : State) (a_1 : Addr) (oq : Addr) (fq : Nat → Int32) (h0 : Heap) (n0 : Nat) (v : Option Value) (h : Heap) (L : List Loc) : Prop := ∃ (x_0 : Addr) (x_1 : Addr) (x_2 : Addr), v = some (.ref x_0) ∧ Fr n0 L ∧ Keep h0 h [] ∧ o_E13 Z h x_0 ∧ o_F3 Z h x_0 .null ∧ o_F6 Z h x_0 (.ref x_1) ∧ o_F7 Z h x_0 (.ref (o_iq Z)) ∧ o_F4 Z h x_0 .null ∧ o_F5 Z h x_0 .null ∧ o_E0 Z h x_1 ∧ o_F1 Z h x_1 (.int 1) ∧ o_F2 Z h x_1 (.ref x_2) ∧ o_AV Z h x_2 .byte (128 : Int32) (o_by (o_cpi (o_inf (o_ls [46]) 63 (o_cpi fq 0 (o_inf (o_cpi (o_cpi (o_ls o_T62) 0 (o_cpi (fun _ => 0) 0 (fun _ => 0) 0 16) 0 62) 0 (fun _ => 0) 0 62) 0 (fun _ => 0) 62) 124 2) 1) 0 (fun _ => 0) 0 128)) ∧ (h0.size ≤ x_0) ∧ (h0.size ≤ x_1) ∧ (h0.size ≤ x_2) ∧ (o_lts [x_0, x_1, x_2])
theorem o_rm4_k1U (l : Launch) (Z : State) (a0 : Array Value) (hw : ∀ d ∈ tables_1, d.before a0 Z = true) (ws : List Jvm.Cond) (a_1 : Addr) (oq : Addr) (fq : Nat → Int32) (h0 : Heap) (n0 : Nat) (Z0 : n0 ≤ h0.size) (j0 : o_G Z h0) (j1 : o_E0 Z h0 a_1) (j2 : o_F2 Z h0 a_1 (.ref oq)) (j3 : o_F1 Z h0 a_1 (.int 1)) (j4 : o_AV Z h0 oq .byte (2 : Int32) (o_by fq)) (hg_n0 : n0 = h0.size) (hold : o_old Z h0) :
    MetFree l (⟨"com/example/orderly_storefront/orderlystorefront/cart/CartException", "invalidQuantity", "(Ljava/lang/String;)Lcom/example/orderly_storefront/orderlystorefront/cart/CartException;"⟩ : MethodName) (head1 (Jvm.Cond.code (⟨"com/example/orderly_storefront/orderlystorefront/cart/CartException", "invalidQuantity", "(Ljava/lang/String;)Lcom/example/orderly_storefront/orderlystorefront/cart/CartException;"⟩ : MethodName) prog_5_method_2_code 1 (some (.object "com/example/orderly_storefront/orderlystorefront/cart/CartException")) :: ws) ({ frames := 10, cells := 12, slots := 859, locals := 146 } : Room)) (fun a U => a = #[(.ref a_1)] ∧ Z.Warmed39 U.vm ∧ U.heap = h0 ∧ (fun vm : Vm => Jvm.ConstHeldL (Z.setVm vm) "com/example/orderly_storefront/orderlystorefront/cart/CartException" 25 ∧ Jvm.ConstHeldL (Z.setVm vm) "com/example/orderly_storefront/orderlystorefront/cart/CartException" 31 ∧ Jvm.ConstHeldL (Z.setVm vm) "com/example/orderly_storefront/orderlystorefront/cart/CartExceptionInvalidQuantityPinLaw" 28) U.vm) (fun _ _ _ _ _ => True) (fun _ U o U' => ∃ v L, o = .returned v ∧ (o_Q4_k1U Z a_1 oq fq h0 n0 v U'.heap L ∧ (fun vm : Vm => Jvm.ConstHeldL (Z.setVm vm) "com/example/orderly_storefront/orderlystorefront/cart/CartExceptionInvalidQuantityPinLaw" 28) U'.vm) ∧ ReturnedEndW U o U' L ({ frames := 10, cells := 12, slots := 859, locals := 146 } : Room).cells ({ frames := 10, cells := 12, slots := 859, locals := 146 } : Room).slots) := by
  refine MetFree.of_bodySF (plainFor_of_name o_pn9) hisR ?_
  intro p e s m args below meth c s₁ Bd hml0 hP hK
  obtain ⟨rfl, hZ, hh, ⟨hp0, hp1, hp2⟩⟩ := hP
  have hx := Bd.exec
  have hby := Bd.bytes
  have hml : c.maxLocals = 1 := hml0
  have hown : s.vm.findClass "com/example/orderly_storefront/orderlystorefront/cart/CartException" = some m.cls := findClass_of_methodNamed Bd.named
  have hnm := (name_of_methodNamed Bd.named Bd.method).1
  have X0 : Stand p l e ({ frames := 10, cells := 12, slots := 859, locals := 146 } : Room) s m #[(.ref a_1)] below meth c s₁ [] 0 0 := Stand.of_body Bd
  have e0 : s₁.heap = h0 := by rw [← hh, Bd.state]; rfl
  have N0 := Fr.nil n0
  have B : o_C p c _ := ⟨hx, hby⟩
  have H : o_H s Z m _ c _ := ⟨hZ, hown, hml⟩
  have X0 : Stand p l e ({ frames := 10, cells := 12, slots := 859, locals := 146 } : Room) (s.setVm s.vm) m #[(.ref a_1)] below meth c s₁ [] 0 0 := X0
  have hZ : Z.Warmed39 (s.setVm s.vm).vm := hZ
  have hown : (s.setVm s.vm).vm.findClass "com/example/orderly_storefront/orderlystorefront/cart/CartException" = some m.cls := hown
  have hS0 : s.Since s.vm 0 := (State.WarmedH.refl s).since 0
  have H : o_H _ Z m _ c _ := ⟨hZ, hown, hml⟩
  have z0 : n0 ≤ h0.size := Z0
  have z1 := o_lt j1.lt
  have z2 := o_lt j4.lt
  have K0 : Keep h0 h0 [] := Keep.refl h0 _
  show o_Go p.tables e below (fun t o => t.status = .running ∧ Ended t below o ∧ ∃ v L, o = .returned v ∧ (o_Q4_k1U Z a_1 oq fq h0 n0 v t.heap L ∧ (fun vm : Vm => Jvm.ConstHeldL (Z.setVm vm) "com/example/orderly_storefront/orderlystorefront/cart/CartExceptionInvalidQuantityPinLaw" 28) t.vm) ∧ ReturnedEndW s o t L ({ frames := 10, cells := 12, slots := 859, locals := 146 } : Room).cells ({ frames := 10, cells := 12, slots := 859, locals := 146 } : Room).slots) s₁ (entryFrame m #[(.ref a_1)] 1)
  rw [o_ef_own_rm4_k1U m a_1]
  show o_Go _ _ _ _ s₁ (mkF m 0 #[.val (.ref a_1)] [])
  obtain ⟨T3, h3, X3, e3, E3, A3, D3, Y3, st3⟩ := newO X0 hx hZ hown (o_h hw 26 rfl) (o_w27 hw) (o_w24 hw) e0 (g := (mkF m 0 #[.val (.ref a_1)] [])) rfl (hb hby d4_0) (by decide) (by decide)
  obtain ⟨b3, g3⟩ : ∃ z, z = h0.size := ⟨_, rfl⟩
  rw [← g3] at A3 D3 Y3 st3
  have z4 := E3.1
  have lt_b3 := o_lt A3.lt
  have K3 := K0.ext E3
  have F_cause_b3 : o_F3 Z h3 b3 .null := D3 (Or.inl (o_w177 hw)) (ty := (.object "java/lang/Throwable")) (by decide)
  have F_stackTrace_b3 : o_F4 Z h3 b3 .null := D3 (Or.inl (o_w180 hw)) (ty := (.array (.object "java/lang/StackTraceElement"))) (by decide)
  have F_suppressedExceptions_b3 : o_F5 Z h3 b3 .null := D3 (Or.inl (o_w183 hw)) (ty := (.object "java/util/List")) (by decide)
  have F_detailMessage_b3 : o_F6 Z h3 b3 .null := D3 (Or.inl (o_w185 hw)) (ty := (.object "java/lang/String")) (by decide)
  have F_reason_b3 : o_F7 Z h3 b3 .null := D3 (Or.inr (o_w187 hw)) (ty := (.object "com/example/orderly_storefront/orderlystorefront/cart/CartException$Reason")) (by decide)
  refine o_go st3 ?_
  refine xd X3 B d4_3 rfl ?_
  have f5 := (j0.ext E3)
  refine o_gs X3 B H (o_h hw 28 rfl) e3 f5.2.2.2.2.2.2.2.1 d4_4 fun T6 X6 e6 => ?_
  obtain ⟨T7, h7, X7, e7, E7, A7, D7, Y7, st7⟩ := newO X6 hx hZ hown (o_h hw 31 rfl) (o_w32 hw) (o_w33 hw) e6 (g := (mkF m 7 #[.val (.ref a_1)] [(.ref (o_iq Z)), (.ref b3), (.ref b3)])) rfl (hb hby d4_7) (by decide) (by decide)
  obtain ⟨b7, g7⟩ : ∃ z, z = h3.size := ⟨_, rfl⟩
  rw [← g7] at A7 D7 Y7 st7
  have z8 := E7.1
  have lt_b7 := o_lt A7.lt
  have K7 := K3.ext E7
  have F_value_b7 : o_F8 Z h7 b7 .null := D7 (Or.inl (o_w46 hw)) (ty := (.array .byte)) (by decide)
  have F_coder_b7 : o_F9 Z h7 b7 (.int 0) := D7 (Or.inl (o_w48 hw)) (ty := .byte) (by decide)
  have F_count_b7 : o_F10 Z h7 b7 (.int 0) := D7 (Or.inl (o_w72 hw)) (ty := .int) (by decide)
  have F_maybeLatin1_b7 : o_F11 Z h7 b7 (.int 0) := D7 (Or.inl (o_w269 hw)) (ty := .boolean) (by decide)
  refine o_go st7 ?_
  refine xd X7 B d4_10 rfl ?_
  have f9 := (f5.ext E7)
  refine o_csp (a := b7) X7 B H e7 (o_rm5_s1 (n0 := n0) hw (by omega) b7 (.int 0) (.int 0) (.int 0) .null A7 F_coder_b7 F_count_b7 F_maybeLatin1_b7 F_value_b7 f9 (by omega)) (o_h hw 34 rfl) (o_h hw 35 rfl) (o_w33 hw) (o_h hw 36 rfl) rfl rfl (lenOf o_pd13 rfl) rfl rfl (W := 4) rfl d4_11 (by decide) ?_
  rintro _ T10 L10 X10 ⟨x_11, rfl, N10q, K10q, f12, f13, f14, f15, f16, f17, f18⟩
  have N10 := Fr.app N0 N10q
  have z19 := K10q.1
  have K10 := K7.trans K10q (allS (Or.inr (by omega)) all0)
  have z20 := o_lt f12.lt
  have z21 := o_lt f17.lt
  have hZ22 := hZ
  obtain ⟨b22, c22, T22, h22, k22, X22, e22, E22, hS22, g22, hZ, hown, Li22, Wn22, Hi22, Ex22, Fv22, Fc22, Av22, sp22, st22⟩ := o_ldcC X10 hx hZ hown (o_w49 hw) (o_wS hw) (o_w16 hw) (o_w17 hw) rfl hS0 (by omega) N10 (Or.inl (by rw [hh]; exact Nat.le_of_eq hg_n0.symm)) hp0 (by rw [hh]; exact hold) (bs := o_T62) (z := (62 : Int32)) (by decide +kernel) (fun _ q => o_lb62 q) (by decide +kernel) (by decide) (by decide) (g := (mkF m 14 #[.val (.ref a_1)] [(.ref b7), (.ref (o_iq Z)), (.ref b3), (.ref b3)])) rfl (hb hby d4_14) (n := 248) (by decide +kernel) (by decide) (by decide) (by decide)
  have z23 := E22.1
  rw [hh] at sp22; unfold o_sep at sp22
  have N22 := Fr.nil n0
  have H : o_H _ Z m _ c _ := ⟨hZ, hown, hml⟩
  have Hh24 := o_carry (s := s) hZ22 (o_w121 hw) Wn22 (o_hint (by decide) Hi22) hp1
  have Hh25 := o_carry (s := s) hZ22 (o_w194 hw) Wn22 (o_hint (by decide) Hi22) hp2
  have z26 := o_lt Ex22.lt
  have z27 := o_lt Av22.lt
  have K22 := K10.ext E22
  refine o_go st22 ?_
  have f28 := (f17.ext E22)
  have f29 := (f12.ext E22)
  have f30 := (f13.ext E22)
  have f31 := (f14.ext E22)
  have f32 := (f15.ext E22)
  have f33 := (f16.ext E22)
  have f34 := ((f9.keep K10q (allS (o_exa_plain A7) all0)).ext E22)
  refine o_cvi X22 B H e22 (o_rm7_s1 (n0 := n0) hw (by omega) b7 b22 x_11 c22 (fun _ => 0) (o_ls o_T62) (.int 0) f28 Av22 f29 Ex22 f30 f31 f32 f33 Fc22 Fv22 f34 (o_ne (by omega)) (o_ne (by omega)) (o_ne (by omega)) (by omega)) (o_w50 hw) (o_w52 hw) (o_w33 hw) (o_w54 hw) (o_w51 hw) (o_w53 hw) (o_w53 hw) rfl f29 rfl (lenOf o_pd23 rfl) rfl rfl (W := 3) rfl d4_16 (by decide) ?_
  rintro _ T35 L35 X35 ⟨x_36, rfl, N35q, K35q, f37, f38, f39, f40, f41, f42, f43⟩
  have N35 := Fr.app N22 N35q
  have z44 := K35q.1
  have K35 := K22.trans K35q (allS (Or.inr (by omega)) all0)
  have z45 := o_lt f37.lt
  have z46 := o_lt f42.lt
  refine xa X35 B d4_19 rfl rfl ?_
  have f47 := (((((j4.ext E3).ext E7).keep K10q (ninS (o_ne (by omega)) nin0)).ext E22).keep K35q (ninS (o_ne (by omega)) nin0))
  have f48 := (((((j1.ext E3).ext E7).keep K10q).ext E22).keep K35q)
  have f49 := (((((j3.ext E3).ext E7).keep K10q (ninS (o_ne (by omega)) nin0)).ext E22).keep K35q (ninS (o_ne (by omega)) nin0))
  have f50 := (((((j2.ext E3).ext E7).keep K10q (ninS (o_ne (by omega)) nin0)).ext E22).keep K35q (ninS (o_ne (by omega)) nin0))
  have f51 := (f34.keep K35q (allS (o_exa_plain f29) all0))
  refine o_cvi X35 B H rfl (o_rm7_s5 (n0 := n0) hw (by omega) b7 a_1 x_36 oq (o_cpi (o_ls o_T62) 0 (o_cpi (fun _ => 0) 0 (fun _ => 0) 0 16) 0 62) fq (.int 0) f42 f47 f37 f48 f38 f39 f40 f41 f49 f50 f51 (o_ne (by omega)) (o_ne (by omega)) (o_ne (by omega)) (by omega)) (o_w50 hw) (o_w52 hw) (o_w33 hw) (o_w54 hw) (o_w51 hw) (o_w53 hw) (o_w53 hw) rfl f37 rfl (lenOf o_pd23 rfl) rfl rfl (W := 3) rfl d4_20 (by decide) ?_
  rintro _ T52 L52 X52 ⟨x_53, rfl, N52q, K52q, f54, f55, f56, f57, f58, f59, f60⟩
  have N52 := Fr.app N35 N52q
  have z61 := K52q.1
  have K52 := K35.trans K52q (allS (Or.inr (by omega)) all0)
  have z62 := o_lt f54.lt
  have z63 := o_lt f59.lt
  have hZ64 := hZ
  obtain ⟨b64, c64, T64, h64, k64, X64, e64, E64, hS64, g64, hZ, hown, Li64, Wn64, Hi64, Ex64, Fv64, Fc64, Av64, sp64, st64⟩ := o_ldcC X52 hx hZ hown (o_w121 hw) (o_wS hw) (o_w16 hw) (o_w17 hw) rfl hS22 (by omega) N52 (Or.inl (by rw [hh]; exact Nat.le_of_eq hg_n0.symm)) Hh24 (by rw [hh]; exact hold) (bs := [46]) (z := (1 : Int32)) (by decide +kernel) (fun _ q => o_lb1 q) (by decide +kernel) (by decide) (by decide) (g := (mkF m 23 #[.val (.ref a_1)] [(.ref b7), (.ref (o_iq Z)), (.ref b3), (.ref b3)])) rfl (hb hby d4_23) (n := 4) (by decide +kernel) (by decide) (by decide) (by decide)
  have z65 := E64.1
  rw [hh] at sp64; unfold o_sep at sp64
  have N64 := Fr.nil n0
  have H : o_H _ Z m _ c _ := ⟨hZ, hown, hml⟩
  have Li66 := Li22.stays Wn64
  have Hh67 := o_carry (s := s) hZ64 (o_w194 hw) Wn64 (o_hint (by decide) Hi64) Hh25
  have z68 := o_lt Ex64.lt
  have z69 := o_lt Av64.lt
  have K64 := K52.ext E64
  refine o_go st64 ?_
  have f70 := (f59.ext E64)
  have f71 := (f54.ext E64)
  have f72 := (f55.ext E64)
  have f73 := (f56.ext E64)
  have f74 := (f57.ext E64)
  have f75 := (f58.ext E64)
  have f76 := ((f51.keep K52q (allS (o_exa_plain f37) all0)).ext E64)
  refine o_cvi X64 B H e64 (o_rm7_s6 (n0 := n0) hw (by omega) b7 b64 x_53 c64 (o_cpi fq 0 (o_inf (o_cpi (o_cpi (o_ls o_T62) 0 (o_cpi (fun _ => 0) 0 (fun _ => 0) 0 16) 0 62) 0 (fun _ => 0) 0 62) 0 (fun _ => 0) 62) 124 2) (o_ls [46]) (.int 0) f70 Av64 f71 Ex64 f72 f73 f74 f75 Fc64 Fv64 f76 (o_ne (by omega)) (o_ne (by omega)) (o_ne (by omega)) (o_ne (by omega)) (o_ne (by omega)) (by omega) (by omega)) (o_w50 hw) (o_w52 hw) (o_w33 hw) (o_w54 hw) (o_w51 hw) (o_w53 hw) (o_w53 hw) rfl f71 rfl (lenOf o_pd23 rfl) rfl rfl (W := 3) rfl d4_25 (by decide) ?_
  rintro _ T77 L77 X77 ⟨rfl, N77q, K77q, f78, f79, f80, f81, f82, f83⟩
  have N77 := Fr.app N64 N77q
  have z84 := K77q.1
  have K77 := K64.trans K77q (allS (Or.inr (by omega)) (allS (Or.inr (by omega)) all0))
  have z85 := o_lt f78.lt
  have z86 := o_lt f79.lt
  have f87 := (f76.keep K77q (allS (o_AV.plain f70) (allS (o_exa_plain f71) all0)))
  refine o_cvi X77 B H rfl (o_rm20_s3 (n0 := n0) hw (by omega) b7 x_53 (o_inf (o_ls [46]) 63 (o_cpi fq 0 (o_inf (o_cpi (o_cpi (o_ls o_T62) 0 (o_cpi (fun _ => 0) 0 (fun _ => 0) 0 16) 0 62) 0 (fun _ => 0) 0 62) 0 (fun _ => 0) 62) 124 2) 1) f78 f79 f80 f81 f82 f83 f87) (o_h hw 122 rfl) (o_h hw 124 rfl) (o_w33 hw) (o_h hw 126 rfl) (o_h hw 123 rfl) (o_h hw 125 rfl) (o_h hw 125 rfl) rfl f79 rfl (lenOf o_pd30 rfl) rfl rfl (W := 3) rfl d4_28 (by decide) ?_
  rintro _ T88 L88 X88 ⟨x_89, x_90, rfl, N88q, K88q, f91, f92, f93, f94, f95, f96, f97⟩
  have N88 := Fr.app N77 N88q
  have z98 := K88q.1
  have K88 := K77.trans K88q all0
  have z99 := o_lt f91.lt
  have z100 := o_lt f94.lt
  simp only [o_lts, and_true] at f97
  have f101 := ((((((((A3.ext E7).keep K10q).ext E22).keep K35q).keep K52q).ext E64).keep K77q).keep K88q)
  have f102 := ((((((((F_cause_b3.ext E7).keep K10q (ninS (o_ne (by omega)) nin0)).ext E22).keep K35q (ninS (o_ne (by omega)) nin0)).keep K52q (ninS (o_ne (by omega)) nin0)).ext E64).keep K77q (ninS (o_ne (by omega)) (ninS (o_ne (by omega)) nin0))).keep K88q nin0)
  have f103 := ((((((((F_detailMessage_b3.ext E7).keep K10q (ninS (o_ne (by omega)) nin0)).ext E22).keep K35q (ninS (o_ne (by omega)) nin0)).keep K52q (ninS (o_ne (by omega)) nin0)).ext E64).keep K77q (ninS (o_ne (by omega)) (ninS (o_ne (by omega)) nin0))).keep K88q nin0)
  have f104 := ((((((((F_reason_b3.ext E7).keep K10q (ninS (o_ne (by omega)) nin0)).ext E22).keep K35q (ninS (o_ne (by omega)) nin0)).keep K52q (ninS (o_ne (by omega)) nin0)).ext E64).keep K77q (ninS (o_ne (by omega)) (ninS (o_ne (by omega)) nin0))).keep K88q nin0)
  have f105 := ((((((((F_stackTrace_b3.ext E7).keep K10q (ninS (o_ne (by omega)) nin0)).ext E22).keep K35q (ninS (o_ne (by omega)) nin0)).keep K52q (ninS (o_ne (by omega)) nin0)).ext E64).keep K77q (ninS (o_ne (by omega)) (ninS (o_ne (by omega)) nin0))).keep K88q nin0)
  have f106 := ((((((((F_suppressedExceptions_b3.ext E7).keep K10q (ninS (o_ne (by omega)) nin0)).ext E22).keep K35q (ninS (o_ne (by omega)) nin0)).keep K52q (ninS (o_ne (by omega)) nin0)).ext E64).keep K77q (ninS (o_ne (by omega)) (ninS (o_ne (by omega)) nin0))).keep K88q nin0)
  have f107 := (f87.keep K88q all0)
  refine o_csp (a := b3) X88 B H rfl (o_rm30_s1 (n0 := n0) hw (by omega) b3 (o_iq Z) x_89 .null .null .null .null .null f101 f102 f103 f104 f105 f106 f107 (by omega)) (o_h hw 161 rfl) (o_h hw 162 rfl) (o_w24 hw) (o_h hw 163 rfl) rfl rfl (lenOf o_pd32 rfl) rfl rfl (W := 1) rfl d4_31 (by decide) ?_
  rintro _ T108 L108 X108 ⟨rfl, N108q, K108q, f109, f110, f111, f112, f113, f114⟩
  have N108 := Fr.app N88 N108q
  have z115 := K108q.1
  have K108 := K88.trans K108q (allS (Or.inr (by omega)) all0)
  have z116 := o_lt f109.lt
  obtain ⟨fs, hr, hrun, hended, hRW⟩ := X108.leaveW hS64 (by omega) (v := some (.ref b3)) (fun h => by rw [Bd.returns] at h; cases h)
  refine ⟨_, _, retOut X108 hx Bd.returns rfl (Or.inr (Or.inr (Or.inr (Or.inr ⟨rfl, rfl, rfl⟩)))) (hb hby d4_34) hr, hrun, hended, _, _, rfl, ?_, o_monoW hRW (by decide) (by decide)⟩
  refine ⟨?_, o_carryH hZ (o_w194 hw) X108.warmed Hh67⟩
  have f118 := (f91.keep K108q)
  have f119 := (f92.keep K108q (ninS (o_ne (by omega)) nin0))
  have f120 := (f93.keep K108q (ninS (o_ne (by omega)) nin0))
  have f121 := (f94.keep K108q (ninS (o_ne (by omega)) nin0))
  exact ⟨b3, x_89, x_90, rfl, N108, K108, f109, f110, f111, f112, f113, f114, f118, f119, f120, f121, (by omega), (by omega), (by omega), (by simp only [o_lts, and_true]; omega)⟩
theorem o_rm9_s5 (hw : o_T Z a0) (Z0 : n0 ≤ h0.size) (a_1 ob0 : Addr) (fa_ob0 : Nat → Int32) (j0 : o_AV Z h0 ob0 .byte (3 : Int32) (o_by fa_ob0)) (j1 : o_E0 Z h0 a_1) (j2 : o_F1 Z h0 a_1 (.int 0)) (j3 : o_F2 Z h0 a_1 (.ref ob0)) (j4 : o_G Z h0) :
    M9' l Z (o_rm 1 0 0 13) #[(.ref a_1)] h0 (fun v h L => v = some (.int 3) ∧ Fr n0 L ∧ h = h0) := by
  refine o_start (plainFor_of_name o_pn2) (L0 := #[.val (.ref a_1)]) (fun _ => rfl) fun p e s m below meth c s₁ hx hby hml hown hnm hret hZ X0 e0 B H => ?_
  have N0 := Fr.nil n0
  have z0 : n0 ≤ h0.size := Z0
  have z1 := o_lt j0.lt
  have z2 := o_lt j1.lt
  refine xa X0 B d9_0 rfl rfl ?_
  refine o_gf X0 B H (o_w20 hw) e0 j3 d9_1 fun T3 X3 e3 => ?_
  refine xl X3 B H e3 j0 d9_4 ?_
  refine xa X3 B d9_5 rfl rfl ?_
  refine o_cvi X3 B H e3 (o_rm10_s1 (n0 := n0) hw (by omega) a_1  j2 j4) (o_w65 hw) (o_w67 hw) (o_w2 hw) (o_w69 hw) (o_w66 hw) (o_w68 hw) (o_w68 hw) rfl j1 rfl (lenOf o_pd14 rfl) rfl rfl (W := 1) rfl d9_6 (by decide) ?_
  rintro _ T4 L4 X4 ⟨rfl, N4q, e4⟩
  have N4 := Fr.app N0 N4q
  refine xshr X4 B d9_9 (3) rfl ?_
  exact o_retI X4 B hret (Or.inl rfl) rfl d9_10 (by decide) e4 ⟨rfl, N4, rfl⟩
theorem o_rm14_s3 (hw : o_T Z a0) (Z0 : n0 ≤ h0.size) :
    M14' l Z (o_rm 0 0 0 0) #[(.int 3), (.int 64)] h0 (fun v h L => v = some (.int 64) ∧ Fr n0 L ∧ h = h0) := by
  refine o_start (Jvm.Free.JP.mathPlain rfl (by decide +kernel)) (L0 := #[.val (.int 3), .val (.int 64)]) (fun _ => rfl) fun p e s m below meth c s₁ hx hby hml hown hnm hret hZ X0 e0 B H => ?_
  have N0 := Fr.nil n0
  have z0 : n0 ≤ h0.size := Z0
  refine xi X0 B d14_0 rfl ?_
  refine xi X0 B d14_1 rfl ?_
  have hc1 : (3 : Int32) < (64 : Int32) := by decide
  refine xM X0 B 2 9 rfl d14_2 (XT.ii_lt_t hc1) (by decide) ?_
  refine xi X0 B d14_9 rfl ?_
  exact o_retI X0 B hret (Or.inl rfl) rfl d14_10 (by decide) e0 ⟨rfl, N0, rfl⟩
theorem o_rm13_s3 (hw : o_T Z a0) (Z0 : n0 ≤ h0.size) :
    M13' l Z (o_rm 1 0 0 14) #[(.int 62), (.int 3), (.int 64)] h0 (fun v h L => v = some (.int 126) ∧ Fr n0 L ∧ h = h0) := by
  refine o_start (plainFor_of_name o_pn5) (L0 := #[.val (.int 62), .val (.int 3), .val (.int 64), .unset]) (fun _ => rfl) fun p e s m below meth c s₁ hx hby hml hown hnm hret hZ X0 e0 B H => ?_
  have N0 := Fr.nil n0
  have z0 : n0 ≤ h0.size := Z0
  refine xi X0 B d13_0 rfl ?_
  refine xi X0 B d13_1 rfl ?_
  refine xi X0 B d13_2 rfl ?_
  refine o_cst X0 B H e0 (o_rm14_s3 (n0 := n0) hw (by omega)   ) (o_h hw 87 rfl) (o_h hw 88 rfl) (o_w89 hw) (o_h hw 90 rfl) rfl (lenOf o_pd16 rfl) rfl rfl (W := 1) rfl d13_3 (by decide) ?_
  rintro _ T1 L1 X1 ⟨rfl, N1q, e1⟩
  have N1 := Fr.app N0 N1q
  refine xadd X1 B d13_6 (126) rfl ?_
  refine xs X1 B d13_7 (l' := #[.val (.int 62), .val (.int 3), .val (.int 64), .val (.int 126)]) rfl ?_
  refine xc X1 B d13_8 0 rfl ?_
  refine xi X1 B d13_9 rfl ?_
  have hc2 : (0 : Int32) < (126 : Int32) := by decide
  refine xm X1 B d13_10 (XT.ii_ge_f hc2) ?_
  refine xi X1 B d13_13 rfl ?_
  refine o_go (fun _ k => X1.ldcInt hx hown (mvT hZ (o_h hw 91 rfl)) (g := (mkF m 14 #[.val (.int 62), .val (.int 3), .val (.int 64), .val (.int 126)] [(.int 126)])) rfl (hb hby d13_14) _ k) ?_
  show o_Go _ _ _ _ T1 (mkF m 16 #[.val (.int 62), .val (.int 3), .val (.int 64), .val (.int 126)] [(.int 2147483639), (.int 126)])
  have hc3 : ¬ ((2147483639 : Int32) < (126 : Int32)) := by decide
  refine xm X1 B d13_16 (XT.ii_gt_f hc3) ?_
  refine xi X1 B d13_19 rfl ?_
  exact o_retI X1 B hret (Or.inl rfl) rfl d13_20 (by decide) e1 ⟨rfl, N1, rfl⟩
theorem o_rm12_s3 (hw : o_T Z a0) (Z0 : n0 ≤ h0.size) (a_1 ob0 : Addr) (fa_ob0 : Nat → Int32) (j0 : o_AV Z h0 ob0 .byte (62 : Int32) (o_by fa_ob0)) (j1 : o_F9 Z h0 a_1 (.int 0)) (j2 : o_F8 Z h0 a_1 (.ref ob0)) :
    M12' l Z (o_rm 2 0 0 29) #[(.ref a_1), (.int 65)] h0 (fun v h L => v = some (.int 126) ∧ Fr n0 L ∧ h = h0) := by
  refine o_start (plainFor_of_name o_pn3) (L0 := #[.val (.ref a_1), .val (.int 65), .unset, .unset, .unset, .unset]) (fun _ => rfl) fun p e s m below meth c s₁ hx hby hml hown hnm hret hZ X0 e0 B H => ?_
  have N0 := Fr.nil n0
  have z0 : n0 ≤ h0.size := Z0
  have z1 := o_lt j0.lt
  have z2 := o_lt j1.lt
  refine xa X0 B d12_0 rfl rfl ?_
  refine o_gf X0 B H (o_w45 hw) e0 j2 d12_1 fun T3 X3 e3 => ?_
  refine xl X3 B H e3 j0 d12_4 ?_
  refine xs X3 B d12_5 (l' := #[.val (.ref a_1), .val (.int 65), .val (.int 62), .unset, .unset, .unset]) rfl ?_
  refine xi X3 B d12_6 rfl ?_
  refine xa X3 B d12_7 rfl rfl ?_
  refine o_gf X3 B H (o_w47 hw) e3 j1 d12_8 fun T4 X4 e4 => ?_
  refine xshl X4 B d12_11 (65) rfl ?_
  refine xs X4 B d12_12 (l' := #[.val (.ref a_1), .val (.int 65), .val (.int 62), .val (.int 65), .unset, .unset]) rfl ?_
  refine xi X4 B d12_13 rfl ?_
  refine xi X4 B d12_14 rfl ?_
  refine xsub X4 B d12_15 (3) rfl ?_
  refine xS X4 B d12_16 (l' := #[.val (.ref a_1), .val (.int 65), .val (.int 62), .val (.int 65), .val (.int 3), .unset]) rfl ?_
  refine xi X4 B d12_18 rfl ?_
  refine xI X4 B d12_19 rfl ?_
  refine xi X4 B d12_21 rfl ?_
  refine xc X4 B d12_22 2 rfl ?_
  refine xa X4 B d12_23 rfl rfl ?_
  refine o_gf X4 B H (o_w47 hw) e4 j1 d12_24 fun T5 X5 e5 => ?_
  refine xshl X5 B d12_27 (2) rfl ?_
  refine xadd X5 B d12_28 (64) rfl ?_
  refine o_cst X5 B H e5 (o_rm13_s3 (n0 := n0) hw (by omega)   ) (o_h hw 83 rfl) (o_h hw 84 rfl) (o_h hw 85 rfl) (o_h hw 86 rfl) rfl (lenOf o_pd17 rfl) rfl rfl (W := 0) rfl d12_29 (by decide) ?_
  rintro _ T6 L6 X6 ⟨rfl, N6q, e6⟩
  have N6 := Fr.app N0 N6q
  refine xS X6 B d12_32 (l' := #[.val (.ref a_1), .val (.int 65), .val (.int 62), .val (.int 65), .val (.int 3), .val (.int 126)]) rfl ?_
  refine xI X6 B d12_34 rfl ?_
  refine o_go (fun _ k => X6.ldcInt hx hown (mvT hZ (o_h hw 92 rfl)) (g := (mkF m 36 #[.val (.ref a_1), .val (.int 65), .val (.int 62), .val (.int 65), .val (.int 3), .val (.int 126)] [(.int 126)])) rfl (hb hby d12_36) _ k) ?_
  show o_Go _ _ _ _ T6 (mkF m 38 #[.val (.ref a_1), .val (.int 65), .val (.int 62), .val (.int 65), .val (.int 3), .val (.int 126)] [(.int 2147483647), (.int 126)])
  have hc7 : ¬ ((126 : Int32) = (2147483647 : Int32)) := by decide
  refine xM X6 B 38 51 rfl d12_38 (XT.ii_ne_t hc7) (by decide) ?_
  refine xI X6 B d12_51 rfl ?_
  refine xa X6 B d12_53 rfl rfl ?_
  refine o_gf X6 B H (o_w47 hw) e6 j1 d12_54 fun T8 X8 e8 => ?_
  refine xshr X8 B d12_57 (126) rfl ?_
  exact o_retI X8 B hret (Or.inl rfl) rfl d12_58 (by decide) e8 ⟨rfl, N6, rfl⟩
theorem o_rm11_s6 (hw : o_T Z a0) (Z0 : n0 ≤ h0.size) (a_1 ob0 : Addr) (fa_ob0 : Nat → Int32) (u_0 u_1 : Value) (j0 : o_AV Z h0 ob0 .byte (62 : Int32) (o_by fa_ob0)) (j1 : o_E12 Z h0 a_1) (j2 : o_F9 Z h0 a_1 (.int 0)) (j3 : o_F10 Z h0 a_1 u_0) (j4 : o_F11 Z h0 a_1 u_1) (j5 : o_F8 Z h0 a_1 (.ref ob0)) (hd_a_1_ob0 : o_df a_1 ob0) (gw_a_1 : n0 ≤ a_1) :
    M11' l Z (o_rm 3 1 126 55) #[(.ref a_1), (.int 65)] h0 (fun v h L => ∃ (x_0 : Addr), v = none ∧ Fr n0 L ∧ Keep h0 h [a_1] ∧ o_E12 Z h a_1 ∧ o_F9 Z h a_1 (.int 0) ∧ o_F10 Z h a_1 u_0 ∧ o_F11 Z h a_1 u_1 ∧ o_F8 Z h a_1 (.ref x_0) ∧ o_AV Z h x_0 .byte (126 : Int32) (o_by (o_cpi fa_ob0 0 (fun _ => 0) 0 62)) ∧ (h0.size ≤ x_0)) := by
  refine o_start (plainFor_of_name o_pn3) (L0 := #[.val (.ref a_1), .val (.int 65), .unset]) (fun _ => rfl) fun p e s m below meth c s₁ hx hby hml hown hnm hret hZ X0 e0 B H => ?_
  have N0 := Fr.nil n0
  have z0 : n0 ≤ h0.size := Z0
  have z1 := o_lt j0.lt
  have z2 := o_lt j1.lt
  have K0 : Keep h0 h0 [a_1] := Keep.refl h0 _
  refine xa X0 B d11_0 rfl rfl ?_
  refine o_gf X0 B H (o_w45 hw) e0 j5 d11_1 fun T3 X3 e3 => ?_
  refine xl X3 B H e3 j0 d11_4 ?_
  refine xa X3 B d11_5 rfl rfl ?_
  refine o_gf X3 B H (o_w47 hw) e3 j2 d11_6 fun T4 X4 e4 => ?_
  refine xshr X4 B d11_9 (62) rfl ?_
  refine xs X4 B d11_10 (l' := #[.val (.ref a_1), .val (.int 65), .val (.int 62)]) rfl ?_
  refine xi X4 B d11_11 rfl ?_
  refine xi X4 B d11_12 rfl ?_
  refine xsub X4 B d11_13 (3) rfl ?_
  have hc5 : 0 < (3 : Int32) := by decide
  refine xn X4 B d11_14 (XT.i0_le_f hc5) ?_
  refine xa X4 B d11_17 rfl rfl ?_
  refine xa X4 B d11_18 rfl rfl ?_
  refine o_gf X4 B H (o_w45 hw) e4 j5 d11_19 fun T6 X6 e6 => ?_
  refine xa X6 B d11_22 rfl rfl ?_
  refine xi X6 B d11_23 rfl ?_
  refine o_cpr X6 B H e6 (o_rm12_s3 (n0 := n0) hw (by omega) a_1 ob0 fa_ob0 j0 j2 j5) (o_h hw 78 rfl) (o_h hw 79 rfl) (o_w41 hw) (o_h hw 82 rfl) (o_h hw 81 rfl) (o_h hw 80 rfl) j1 rfl (lenOf o_pd5 rfl) rfl rfl (W := 2) rfl d11_24 (by decide) ?_
  rintro _ T7 L7 X7 ⟨rfl, N7q, e7⟩
  have N7 := Fr.app N0 N7q
  refine xa X7 B d11_27 rfl rfl ?_
  refine o_gf X7 B H (o_w47 hw) e7 j2 d11_28 fun T8 X8 e8 => ?_
  refine xshl X8 B d11_31 (126) rfl ?_
  refine o_cst X8 B H e8 (o_rm15_s2 (n0 := n0) hw (by omega) ob0 fa_ob0 j0) (o_h hw 93 rfl) (o_h hw 94 rfl) (o_w95 hw) (o_h hw 96 rfl) rfl (lenOf o_pd18 rfl) rfl rfl (W := 1) rfl d11_32 (by decide) ?_
  rintro _ T9 L9 X9 ⟨x_10, rfl, N9q, K9q, f11, f12⟩
  have N9 := Fr.app N7 N9q
  have z13 := K9q.1
  have K9 := K0.trans K9q all0
  have z14 := o_lt f11.lt
  have f15 := (j1.keep K9q)
  have f16 := (j5.keep K9q nin0)
  obtain ⟨T17, h17, X17, e17, W17, st17⟩ := putF X9 hx hZ hown (host := "") (Or.inl (o_w45 hw)) Via.refl rfl f16 f15 (Or.inl (o_w46 hw)) (o_w32 hw) (ty := (.array .byte)) (by decide) rfl rfl (g := (mkF m 35 #[.val (.ref a_1), .val (.int 65), .val (.int 62)] [(.ref x_10), (.ref a_1)])) rfl rfl (hb hby d11_35)
  have z18 := W17.size
  have K17 := K9.wr W17 (Or.inl o_m0)
  have N17 := Fr.snoc X17 N9 (by omega : n0 ≤ a_1)
  have Fw17 : o_F8 Z h17 a_1 (.ref x_10) := Fld.same W17 f16
  refine o_go st17 ?_
  have f20 := (f15.wr W17)
  have f21 := ((j2.keep K9q nin0).other W17 (Or.inr (slot_ne (Or.inl (o_w48 hw)) (Or.inl (o_w46 hw)) (by decide) (t := .byte) (t' := (.array .byte)) (by decide) (by decide))))
  have f22 := ((j3.keep K9q nin0).other W17 (Or.inr (slot_ne (Or.inl (o_w72 hw)) (Or.inl (o_w46 hw)) (by decide) (t := .int) (t' := (.array .byte)) (by decide) (by decide))))
  have f23 := ((j4.keep K9q nin0).other W17 (Or.inr (slot_ne (Or.inl (o_w269 hw)) (Or.inl (o_w46 hw)) (by decide) (t := .boolean) (t' := (.array .byte)) (by decide) (by decide))))
  have f24 := (f11.other W17 (o_ne (by omega)))
  exact o_retV X17 B hret d11_38 (by decide) e17 ⟨x_10, rfl, N17, K17, f20, f21, f22, f23, Fw17, f24, (by omega)⟩
theorem o_rm19_s7 (hw : o_T Z a0) (Z0 : n0 ≤ h0.size) (a_1 a_2 ob0 : Addr) (fa_a_2 fa_ob0 : Nat → Int32) (j0 : o_AV Z h0 a_2 .byte (126 : Int32) (o_by fa_a_2)) (j1 : o_AV Z h0 ob0 .byte (3 : Int32) (o_by fa_ob0)) (j2 : o_E0 Z h0 a_1) (j3 : o_F1 Z h0 a_1 (.int 0)) (j4 : o_F2 Z h0 a_1 (.ref ob0)) (j5 : o_G Z h0) (hd_a_1_a_2 : o_df a_1 a_2) (hd_a_2_ob0 : o_df a_2 ob0) (gw_a_2 : n0 ≤ a_2) :
    M19' l Z (o_rm 1 0 0 40) #[(.ref a_1), (.ref a_2), (.int 62), (.int 0)] h0 (fun v h L => v = none ∧ Fr n0 L ∧ Keep h0 h [a_2] ∧ o_AV Z h a_2 .byte (126 : Int32) (o_by (o_cpi fa_ob0 0 fa_a_2 62 3))) := by
  refine o_start (plainFor_of_name o_pn2) (L0 := #[.val (.ref a_1), .val (.ref a_2), .val (.int 62), .val (.int 0)]) (fun _ => rfl) fun p e s m below meth c s₁ hx hby hml hown hnm hret hZ X0 e0 B H => ?_
  have N0 := Fr.nil n0
  have z0 : n0 ≤ h0.size := Z0
  have z1 := o_lt j0.lt
  have z2 := o_lt j1.lt
  have z3 := o_lt j2.lt
  have K0 : Keep h0 h0 [a_2] := Keep.refl h0 _
  refine xa X0 B d19_0 rfl rfl ?_
  refine o_cvi X0 B H e0 (o_rm10_s1 (n0 := n0) hw (by omega) a_1  j3 j5) (o_w65 hw) (o_w67 hw) (o_w2 hw) (o_w69 hw) (o_w66 hw) (o_w68 hw) (o_w68 hw) rfl j2 rfl (lenOf o_pd14 rfl) rfl rfl (W := 0) rfl d19_1 (by decide) ?_
  rintro _ T4 L4 X4 ⟨rfl, N4q, e4⟩
  have N4 := Fr.app N0 N4q
  refine xi X4 B d19_4 rfl ?_
  have hc5 : (0 : Int32) = (0 : Int32) := by decide
  refine xm X4 B d19_5 (XT.ii_ne_f hc5) ?_
  refine xa X4 B d19_8 rfl rfl ?_
  refine o_gf X4 B H (o_w20 hw) e4 j4 d19_9 fun T6 X6 e6 => ?_
  refine xc X6 B d19_12 0 rfl ?_
  refine xa X6 B d19_13 rfl rfl ?_
  refine xi X6 B d19_14 rfl ?_
  refine xi X6 B d19_15 rfl ?_
  refine xshl X6 B d19_16 (62) rfl ?_
  refine xa X6 B d19_17 rfl rfl ?_
  refine o_gf X6 B H (o_w20 hw) e6 j4 d19_18 fun T7 X7 e7 => ?_
  refine xl X7 B H e7 j1 d19_21 ?_
  obtain ⟨T8, h8, L8, X8, e8, N8, Kq8, V8, st8⟩ := o_cpB X7 hx hZ hown (o_h hw 120 rfl) (o_w103 hw) (o_w101 hw) (o_w102 hw) e7 j1 j0 (sp' := 0) (dp' := 62) (nn' := 3) (by decide) (by decide) (by decide) (by decide) (by decide) (by decide) (by decide) (by decide) N4 (by omega) (g := (mkF m 22 #[.val (.ref a_1), .val (.ref a_2), .val (.int 62), .val (.int 0)] [(.int 3), (.int 62), (.ref a_2), (.int 0), (.ref ob0)])) rfl (by rw [hml]; rfl) rfl (hb hby d19_22) (by decide) (W := 0) (by show 2 * 0 + _ ≤ _; exact Nat.le_of_eq rfl) (by decide)
  have z9 := Kq8.1
  have K8 := K0.trans Kq8 (allS (Or.inl o_m0) all0)
  refine o_go st8 ?_
  refine xg X8 B 25 43 rfl d19_25 (by decide) ?_
  exact o_retV X8 B hret d19_43 (by decide) e8 ⟨rfl, N8, K8, V8⟩
theorem o_rm17_s7 (hw : o_T Z a0) (Z0 : n0 ≤ h0.size) (a_1 a_3 ob0 ob1 : Addr) (fa_ob0 fa_ob1 : Nat → Int32) (j0 : o_AV Z h0 ob0 .byte (126 : Int32) (o_by fa_ob0)) (j1 : o_AV Z h0 ob1 .byte (3 : Int32) (o_by fa_ob1)) (j2 : o_E12 Z h0 a_1) (j3 : o_E0 Z h0 a_3) (j4 : o_F9 Z h0 a_1 (.int 0)) (j5 : o_F8 Z h0 a_1 (.ref ob0)) (j6 : o_F1 Z h0 a_3 (.int 0)) (j7 : o_F2 Z h0 a_3 (.ref ob1)) (j8 : o_G Z h0) (hd_a_1_ob0 : o_df a_1 ob0) (hd_a_3_ob0 : o_df a_3 ob0) (hd_ob0_ob1 : o_df ob0 ob1) (gw_ob0 : n0 ≤ ob0) :
    M17' l Z (o_rm 2 0 0 55) #[(.ref a_1), (.int 62), (.ref a_3)] h0 (fun v h L => v = none ∧ Fr n0 L ∧ Keep h0 h [ob0] ∧ o_AV Z h ob0 .byte (126 : Int32) (o_by (o_cpi fa_ob1 0 fa_ob0 62 3))) := by
  refine o_start (plainFor_of_name o_pn3) (L0 := #[.val (.ref a_1), .val (.int 62), .val (.ref a_3)]) (fun _ => rfl) fun p e s m below meth c s₁ hx hby hml hown hnm hret hZ X0 e0 B H => ?_
  have N0 := Fr.nil n0
  have z0 : n0 ≤ h0.size := Z0
  have z1 := o_lt j0.lt
  have z2 := o_lt j1.lt
  have z3 := o_lt j2.lt
  have z4 := o_lt j3.lt
  have K0 : Keep h0 h0 [ob0] := Keep.refl h0 _
  refine xa X0 B d17_0 rfl rfl ?_
  refine xa X0 B d17_1 rfl rfl ?_
  refine o_cpr X0 B H e0 (o_rm18_s1 (n0 := n0) hw (by omega) a_1 a_3  j3 j4 j6 j8) (o_h hw 109 rfl) (o_w110 hw) (o_w41 hw) (o_h hw 113 rfl) (o_h hw 112 rfl) (o_w111 hw) j2 rfl (lenOf o_pd19 rfl) rfl rfl (W := 0) rfl d17_2 (by decide) ?_
  rintro _ T5 L5 X5 ⟨rfl, N5q, e5⟩
  have N5 := Fr.app N0 N5q
  refine xa X5 B d17_5 rfl rfl ?_
  refine xa X5 B d17_6 rfl rfl ?_
  refine o_gf X5 B H (o_w45 hw) e5 j5 d17_7 fun T6 X6 e6 => ?_
  refine xi X6 B d17_10 rfl ?_
  refine xa X6 B d17_11 rfl rfl ?_
  refine o_gf X6 B H (o_w47 hw) e6 j4 d17_12 fun T7 X7 e7 => ?_
  refine o_cvi X7 B H e7 (o_rm19_s7 (n0 := n0) hw (by omega) a_3 ob0 ob1 fa_ob0 fa_ob1 j0 j1 j3 j6 j7 j8 hd_a_3_ob0 hd_ob0_ob1 (by omega)) (o_w115 hw) (o_w117 hw) (o_w2 hw) (o_h hw 119 rfl) (o_w116 hw) (o_w118 hw) (o_w118 hw) rfl j3 rfl (lenOf o_pd20 rfl) rfl rfl (W := 0) rfl d17_15 (by decide) ?_
  rintro _ T8 L8 X8 ⟨rfl, N8q, K8q, f9⟩
  have N8 := Fr.app N5 N8q
  have z10 := K8q.1
  have K8 := K0.trans K8q (allS (Or.inl o_m0) all0)
  have z11 := o_lt f9.lt
  exact o_retV X8 B hret d17_18 (by decide) rfl ⟨rfl, N8, K8, f9⟩
theorem o_rm8_s7 (hw : o_T Z a0) (Z0 : n0 ≤ h0.size) (a_1 a_2 ob0 ob1 : Addr) (fa_ob0 fa_ob1 : Nat → Int32) (u_0 : Value) (j0 : o_AV Z h0 ob0 .byte (62 : Int32) (o_by fa_ob0)) (j1 : o_AV Z h0 ob1 .byte (3 : Int32) (o_by fa_ob1)) (j2 : o_E12 Z h0 a_1) (j3 : o_E0 Z h0 a_2) (j4 : o_F9 Z h0 a_1 (.int 0)) (j5 : o_F10 Z h0 a_1 (.int 62)) (j6 : o_F11 Z h0 a_1 u_0) (j7 : o_F8 Z h0 a_1 (.ref ob0)) (j8 : o_F1 Z h0 a_2 (.int 0)) (j9 : o_F2 Z h0 a_2 (.ref ob1)) (j10 : o_G Z h0) (hd_a_1_a_2 : o_df a_1 a_2) (hd_a_1_ob0 : o_df a_1 ob0) (hd_a_1_ob1 : o_df a_1 ob1) (gw_a_1 : n0 ≤ a_1) :
    M8' l Z (o_rm 4 1 126 69) #[(.ref a_1), (.ref a_2)] h0 (fun v h L => ∃ (x_0 : Addr), v = some (.ref a_1) ∧ Fr n0 L ∧ Keep h0 h [a_1] ∧ o_E12 Z h a_1 ∧ o_F9 Z h a_1 (.int 0) ∧ o_F10 Z h a_1 (.int 65) ∧ o_F11 Z h a_1 u_0 ∧ o_F8 Z h a_1 (.ref x_0) ∧ o_AV Z h x_0 .byte (126 : Int32) (o_by (o_cpi fa_ob1 0 (o_cpi fa_ob0 0 (fun _ => 0) 0 62) 62 3)) ∧ (h0.size ≤ x_0)) := by
  refine o_start (plainFor_of_name o_pn3) (L0 := #[.val (.ref a_1), .val (.ref a_2), .unset]) (fun _ => rfl) fun p e s m below meth c s₁ hx hby hml hown hnm hret hZ X0 e0 B H => ?_
  have N0 := Fr.nil n0
  have z0 : n0 ≤ h0.size := Z0
  have z1 := o_lt j0.lt
  have z2 := o_lt j1.lt
  have z3 := o_lt j2.lt
  have z4 := o_lt j3.lt
  have K0 : Keep h0 h0 [a_1] := Keep.refl h0 _
  refine xa X0 B d8_0 rfl rfl ?_
  refine xN X0 B 1 9 rfl d8_1 (by decide) ?_
  refine xa X0 B d8_9 rfl rfl ?_
  refine o_cvi X0 B H e0 (o_rm9_s5 (n0 := n0) hw (by omega) a_2 ob1 fa_ob1 j1 j3 j8 j9 j10) (o_w60 hw) (o_w62 hw) (o_w2 hw) (o_h hw 64 rfl) (o_w61 hw) (o_w63 hw) (o_w63 hw) rfl j3 rfl (lenOf o_pd15 rfl) rfl rfl (W := 0) rfl d8_10 (by decide) ?_
  rintro _ T5 L5 X5 ⟨rfl, N5q, e5⟩
  have N5 := Fr.app N0 N5q
  refine xs X5 B d8_13 (l' := #[.val (.ref a_1), .val (.ref a_2), .val (.int 3)]) rfl ?_
  refine xa X5 B d8_14 rfl rfl ?_
  refine xa X5 B d8_15 rfl rfl ?_
  refine o_gf X5 B H (o_w71 hw) e5 j5 d8_16 fun T6 X6 e6 => ?_
  refine xi X6 B d8_19 rfl ?_
  refine xadd X6 B d8_20 (65) rfl ?_
  refine o_cpr X6 B H e6 (o_rm11_s6 (n0 := n0) hw (by omega) a_1 ob0 fa_ob0 (.int 62) u_0 j0 j2 j4 j5 j6 j7 hd_a_1_ob0 (by omega)) (o_h hw 73 rfl) (o_w74 hw) (o_w41 hw) (o_h hw 77 rfl) (o_w76 hw) (o_w75 hw) j2 rfl (lenOf o_pd12 rfl) rfl rfl (W := 0) rfl d8_21 (by decide) ?_
  rintro _ T7 L7 X7 ⟨x_8, rfl, N7q, K7q, f9, f10, f11, f12, f13, f14, f15⟩
  have N7 := Fr.app N5 N7q
  have z16 := K7q.1
  have K7 := K0.trans K7q (allS (Or.inl o_m0) all0)
  have z17 := o_lt f9.lt
  have z18 := o_lt f14.lt
  refine xa X7 B d8_24 rfl rfl ?_
  refine xa X7 B d8_25 rfl rfl ?_
  refine o_gf X7 B H (o_w71 hw) rfl f11 d8_26 fun T19 X19 e19 => ?_
  refine xa X19 B d8_29 rfl rfl ?_
  have f20 := (j1.keep K7q (ninS hd_a_1_ob1.sym nin0))
  have f21 := (j3.keep K7q)
  have f22 := (j8.keep K7q (ninS hd_a_1_a_2.sym nin0))
  have f23 := (j9.keep K7q (ninS hd_a_1_a_2.sym nin0))
  have f24 := (j10.keep K7q (allS (o_exa_plain j2) all0))
  refine o_cpr X19 B H e19 (o_rm17_s7 (n0 := n0) hw (by omega) a_1 a_2 x_8 ob1 (o_cpi fa_ob0 0 (fun _ => 0) 0 62) fa_ob1 f14 f20 f9 f21 f10 f13 f22 f23 f24 (o_ne (by omega)) (o_ne (by omega)) (o_ne (by omega)) (by omega)) (o_h hw 104 rfl) (o_w105 hw) (o_w41 hw) (o_h hw 108 rfl) (o_h hw 107 rfl) (o_w106 hw) f9 rfl (lenOf o_pd21 rfl) rfl rfl (W := 0) rfl d8_30 (by decide) ?_
  rintro _ T25 L25 X25 ⟨rfl, N25q, K25q, f26⟩
  have N25 := Fr.app N7 N25q
  have z27 := K25q.1
  have K25 := K7.trans K25q (allS (Or.inr (by omega)) all0)
  have z28 := o_lt f26.lt
  refine xa X25 B d8_33 rfl rfl ?_
  refine xd X25 B d8_34 rfl ?_
  have f29 := (f11.keep K25q (ninS (o_ne (by omega)) nin0))
  refine o_gf X25 B H (o_w71 hw) rfl f29 d8_35 fun T30 X30 e30 => ?_
  refine xi X30 B d8_38 rfl ?_
  refine xadd X30 B d8_39 (65) rfl ?_
  have f31 := (f9.keep K25q)
  obtain ⟨T32, h32, X32, e32, W32, st32⟩ := putF X30 hx hZ hown (host := "") (Or.inl (o_w71 hw)) Via.refl e30 f29 f31 (Or.inl (o_w72 hw)) (o_w32 hw) (ty := .int) (by decide) rfl rfl (g := (mkF m 40 #[.val (.ref a_1), .val (.ref a_2), .val (.int 3)] [(.int 65), (.ref a_1)])) rfl rfl (hb hby d8_40)
  have z33 := W32.size
  have K32 := K25.wr W32 (Or.inl o_m0)
  have N32 := Fr.snoc X32 N25 (by omega : n0 ≤ a_1)
  have Fw32 : o_F10 Z h32 a_1 (.int 65) := Fld.same W32 f29
  refine o_go st32 ?_
  refine xa X32 B d8_43 rfl rfl ?_
  have f35 := (f31.wr W32)
  have f36 := ((f10.keep K25q (ninS (o_ne (by omega)) nin0)).other W32 (Or.inr (slot_ne (Or.inl (o_w48 hw)) (Or.inl (o_w72 hw)) (by decide) (t := .byte) (t' := .int) (by decide) (by decide))))
  have f37 := ((f12.keep K25q (ninS (o_ne (by omega)) nin0)).other W32 (Or.inr (slot_ne (Or.inl (o_w269 hw)) (Or.inl (o_w72 hw)) (by decide) (t := .boolean) (t' := .int) (by decide) (by decide))))
  have f38 := ((f13.keep K25q (ninS (o_ne (by omega)) nin0)).other W32 (Or.inr (slot_ne (Or.inl (o_w46 hw)) (Or.inl (o_w72 hw)) (by decide) (t := (.array .byte)) (t' := .int) (by decide) (by decide))))
  have f39 := (f26.other W32 (o_ne (by omega)))
  exact o_retA X32 B hret rfl rfl rfl d8_44 (by decide) e32 ⟨x_8, rfl, N32, K32, f35, f36, Fw32, f37, f38, f39, (by omega)⟩
theorem o_rm7_s7 (hw : o_T Z a0) (Z0 : n0 ≤ h0.size) (a_1 a_2 ob0 ob1 : Addr) (fa_ob0 fa_ob1 : Nat → Int32) (u_0 : Value) (j0 : o_AV Z h0 ob0 .byte (62 : Int32) (o_by fa_ob0)) (j1 : o_AV Z h0 ob1 .byte (3 : Int32) (o_by fa_ob1)) (j2 : o_E12 Z h0 a_1) (j3 : o_E0 Z h0 a_2) (j4 : o_F9 Z h0 a_1 (.int 0)) (j5 : o_F10 Z h0 a_1 (.int 62)) (j6 : o_F11 Z h0 a_1 u_0) (j7 : o_F8 Z h0 a_1 (.ref ob0)) (j8 : o_F1 Z h0 a_2 (.int 0)) (j9 : o_F2 Z h0 a_2 (.ref ob1)) (j10 : o_G Z h0) (hd_a_1_a_2 : o_df a_1 a_2) (hd_a_1_ob0 : o_df a_1 ob0) (hd_a_1_ob1 : o_df a_1 ob1) (gw_a_1 : n0 ≤ a_1) :
    M7' l Z (o_rm 5 1 126 83) #[(.ref a_1), (.ref a_2)] h0 (fun v h L => ∃ (x_0 : Addr), v = some (.ref a_1) ∧ Fr n0 L ∧ Keep h0 h [a_1] ∧ o_E12 Z h a_1 ∧ o_F9 Z h a_1 (.int 0) ∧ o_F10 Z h a_1 (.int 65) ∧ o_F11 Z h a_1 u_0 ∧ o_F8 Z h a_1 (.ref x_0) ∧ o_AV Z h x_0 .byte (126 : Int32) (o_by (o_cpi fa_ob1 0 (o_cpi fa_ob0 0 (fun _ => 0) 0 62) 62 3)) ∧ (h0.size ≤ x_0)) := by
  refine o_start (plainFor_of_name o_pn4) (L0 := #[.val (.ref a_1), .val (.ref a_2)]) (fun _ => rfl) fun p e s m below meth c s₁ hx hby hml hown hnm hret hZ X0 e0 B H => ?_
  have N0 := Fr.nil n0
  have z0 : n0 ≤ h0.size := Z0
  have z1 := o_lt j0.lt
  have z2 := o_lt j1.lt
  have z3 := o_lt j2.lt
  have z4 := o_lt j3.lt
  have K0 : Keep h0 h0 [a_1] := Keep.refl h0 _
  refine xa X0 B d7_0 rfl rfl ?_
  refine xa X0 B d7_1 rfl rfl ?_
  refine o_csu X0 B H e0 (o_rm8_s7 (n0 := n0) hw (by omega) a_1 a_2 ob0 ob1 fa_ob0 fa_ob1 u_0 j0 j1 j2 j3 j4 j5 j6 j7 j8 j9 j10 hd_a_1_a_2 hd_a_1_ob0 hd_a_1_ob1 (by omega)) (o_h hw 55 rfl) (o_h hw 56 rfl) (o_w41 hw) (o_h hw 59 rfl) (o_w58 hw) (o_w76 hw) rfl (o_w57 hw) j2 (by decide) rfl (lenOf o_pd22 rfl) rfl rfl (W := 0) rfl d7_2 (by decide) ?_
  rintro _ T5 L5 X5 ⟨x_6, rfl, N5q, K5q, f7, f8, f9, f10, f11, f12, f13⟩
  have N5 := Fr.app N0 N5q
  have z14 := K5q.1
  have K5 := K0.trans K5q (allS (Or.inl o_m0) all0)
  have z15 := o_lt f7.lt
  have z16 := o_lt f12.lt
  refine xp X5 B d7_5 rfl ?_
  refine xa X5 B d7_6 rfl rfl ?_
  exact o_retA X5 B hret rfl rfl rfl d7_7 (by decide) rfl ⟨x_6, rfl, N5, K5, f7, f8, f9, f10, f11, f12, (by omega)⟩
theorem o_rm11_s7 (hw : o_T Z a0) (Z0 : n0 ≤ h0.size) (a_1 ob0 : Addr) (fa_ob0 : Nat → Int32) (j0 : o_AV Z h0 ob0 .byte (126 : Int32) (o_by fa_ob0)) (j1 : o_F9 Z h0 a_1 (.int 0)) (j2 : o_F8 Z h0 a_1 (.ref ob0)) :
    M11' l Z (o_rm 0 0 0 0) #[(.ref a_1), (.int 66)] h0 (fun v h L => v = none ∧ Fr n0 L ∧ h = h0) := by
  refine o_start (plainFor_of_name o_pn3) (L0 := #[.val (.ref a_1), .val (.int 66), .unset]) (fun _ => rfl) fun p e s m below meth c s₁ hx hby hml hown hnm hret hZ X0 e0 B H => ?_
  have N0 := Fr.nil n0
  have z0 : n0 ≤ h0.size := Z0
  have z1 := o_lt j0.lt
  have z2 := o_lt j1.lt
  refine xa X0 B d11_0 rfl rfl ?_
  refine o_gf X0 B H (o_w45 hw) e0 j2 d11_1 fun T3 X3 e3 => ?_
  refine xl X3 B H e3 j0 d11_4 ?_
  refine xa X3 B d11_5 rfl rfl ?_
  refine o_gf X3 B H (o_w47 hw) e3 j1 d11_6 fun T4 X4 e4 => ?_
  refine xshr X4 B d11_9 (126) rfl ?_
  refine xs X4 B d11_10 (l' := #[.val (.ref a_1), .val (.int 66), .val (.int 126)]) rfl ?_
  refine xi X4 B d11_11 rfl ?_
  refine xi X4 B d11_12 rfl ?_
  refine xsub X4 B d11_13 (-60) rfl ?_
  have hc5 : ¬ (0 < (-60 : Int32)) := by decide
  refine xy X4 B 14 38 rfl d11_14 (XT.i0_le_t hc5) (by decide) ?_
  exact o_retV X4 B hret d11_38 (by decide) e4 ⟨rfl, N0, rfl⟩
theorem o_rm19_s8 (hw : o_T Z a0) (Z0 : n0 ≤ h0.size) (a_1 a_2 ob0 : Addr) (fa_a_2 fa_ob0 : Nat → Int32) (j0 : o_AV Z h0 a_2 .byte (126 : Int32) (o_by fa_a_2)) (j1 : o_AV Z h0 ob0 .byte (1 : Int32) (o_by fa_ob0)) (j2 : o_E0 Z h0 a_1) (j3 : o_F1 Z h0 a_1 (.int 0)) (j4 : o_F2 Z h0 a_1 (.ref ob0)) (j5 : o_G Z h0) (hd_a_1_a_2 : o_df a_1 a_2) (hd_a_2_ob0 : o_df a_2 ob0) (gw_a_2 : n0 ≤ a_2) :
    M19' l Z (o_rm 1 0 0 40) #[(.ref a_1), (.ref a_2), (.int 65), (.int 0)] h0 (fun v h L => v = none ∧ Fr n0 L ∧ Keep h0 h [a_2] ∧ o_AV Z h a_2 .byte (126 : Int32) (o_by (o_cpi fa_ob0 0 fa_a_2 65 1))) := by
  refine o_start (plainFor_of_name o_pn2) (L0 := #[.val (.ref a_1), .val (.ref a_2), .val (.int 65), .val (.int 0)]) (fun _ => rfl) fun p e s m below meth c s₁ hx hby hml hown hnm hret hZ X0 e0 B H => ?_
  have N0 := Fr.nil n0
  have z0 : n0 ≤ h0.size := Z0
  have z1 := o_lt j0.lt
  have z2 := o_lt j1.lt
  have z3 := o_lt j2.lt
  have K0 : Keep h0 h0 [a_2] := Keep.refl h0 _
  refine xa X0 B d19_0 rfl rfl ?_
  refine o_cvi X0 B H e0 (o_rm10_s1 (n0 := n0) hw (by omega) a_1  j3 j5) (o_w65 hw) (o_w67 hw) (o_w2 hw) (o_w69 hw) (o_w66 hw) (o_w68 hw) (o_w68 hw) rfl j2 rfl (lenOf o_pd14 rfl) rfl rfl (W := 0) rfl d19_1 (by decide) ?_
  rintro _ T4 L4 X4 ⟨rfl, N4q, e4⟩
  have N4 := Fr.app N0 N4q
  refine xi X4 B d19_4 rfl ?_
  have hc5 : (0 : Int32) = (0 : Int32) := by decide
  refine xm X4 B d19_5 (XT.ii_ne_f hc5) ?_
  refine xa X4 B d19_8 rfl rfl ?_
  refine o_gf X4 B H (o_w20 hw) e4 j4 d19_9 fun T6 X6 e6 => ?_
  refine xc X6 B d19_12 0 rfl ?_
  refine xa X6 B d19_13 rfl rfl ?_
  refine xi X6 B d19_14 rfl ?_
  refine xi X6 B d19_15 rfl ?_
  refine xshl X6 B d19_16 (65) rfl ?_
  refine xa X6 B d19_17 rfl rfl ?_
  refine o_gf X6 B H (o_w20 hw) e6 j4 d19_18 fun T7 X7 e7 => ?_
  refine xl X7 B H e7 j1 d19_21 ?_
  obtain ⟨T8, h8, L8, X8, e8, N8, Kq8, V8, st8⟩ := o_cpB X7 hx hZ hown (o_h hw 120 rfl) (o_w103 hw) (o_w101 hw) (o_w102 hw) e7 j1 j0 (sp' := 0) (dp' := 65) (nn' := 1) (by decide) (by decide) (by decide) (by decide) (by decide) (by decide) (by decide) (by decide) N4 (by omega) (g := (mkF m 22 #[.val (.ref a_1), .val (.ref a_2), .val (.int 65), .val (.int 0)] [(.int 1), (.int 65), (.ref a_2), (.int 0), (.ref ob0)])) rfl (by rw [hml]; rfl) rfl (hb hby d19_22) (by decide) (W := 0) (by show 2 * 0 + _ ≤ _; exact Nat.le_of_eq rfl) (by decide)
  have z9 := Kq8.1
  have K8 := K0.trans Kq8 (allS (Or.inl o_m0) all0)
  refine o_go st8 ?_
  refine xg X8 B 25 43 rfl d19_25 (by decide) ?_
  exact o_retV X8 B hret d19_43 (by decide) e8 ⟨rfl, N8, K8, V8⟩
theorem o_rm17_s8 (hw : o_T Z a0) (Z0 : n0 ≤ h0.size) (a_1 a_3 ob0 ob1 : Addr) (fa_ob0 fa_ob1 : Nat → Int32) (j0 : o_AV Z h0 ob0 .byte (126 : Int32) (o_by fa_ob0)) (j1 : o_AV Z h0 ob1 .byte (1 : Int32) (o_by fa_ob1)) (j2 : o_E12 Z h0 a_1) (j3 : o_E0 Z h0 a_3) (j4 : o_F9 Z h0 a_1 (.int 0)) (j5 : o_F8 Z h0 a_1 (.ref ob0)) (j6 : o_F1 Z h0 a_3 (.int 0)) (j7 : o_F2 Z h0 a_3 (.ref ob1)) (j8 : o_G Z h0) (hd_a_1_ob0 : o_df a_1 ob0) (hd_a_3_ob0 : o_df a_3 ob0) (hd_ob0_ob1 : o_df ob0 ob1) (gw_ob0 : n0 ≤ ob0) :
    M17' l Z (o_rm 2 0 0 55) #[(.ref a_1), (.int 65), (.ref a_3)] h0 (fun v h L => v = none ∧ Fr n0 L ∧ Keep h0 h [ob0] ∧ o_AV Z h ob0 .byte (126 : Int32) (o_by (o_cpi fa_ob1 0 fa_ob0 65 1))) := by
  refine o_start (plainFor_of_name o_pn3) (L0 := #[.val (.ref a_1), .val (.int 65), .val (.ref a_3)]) (fun _ => rfl) fun p e s m below meth c s₁ hx hby hml hown hnm hret hZ X0 e0 B H => ?_
  have N0 := Fr.nil n0
  have z0 : n0 ≤ h0.size := Z0
  have z1 := o_lt j0.lt
  have z2 := o_lt j1.lt
  have z3 := o_lt j2.lt
  have z4 := o_lt j3.lt
  have K0 : Keep h0 h0 [ob0] := Keep.refl h0 _
  refine xa X0 B d17_0 rfl rfl ?_
  refine xa X0 B d17_1 rfl rfl ?_
  refine o_cpr X0 B H e0 (o_rm18_s1 (n0 := n0) hw (by omega) a_1 a_3  j3 j4 j6 j8) (o_h hw 109 rfl) (o_w110 hw) (o_w41 hw) (o_h hw 113 rfl) (o_h hw 112 rfl) (o_w111 hw) j2 rfl (lenOf o_pd19 rfl) rfl rfl (W := 0) rfl d17_2 (by decide) ?_
  rintro _ T5 L5 X5 ⟨rfl, N5q, e5⟩
  have N5 := Fr.app N0 N5q
  refine xa X5 B d17_5 rfl rfl ?_
  refine xa X5 B d17_6 rfl rfl ?_
  refine o_gf X5 B H (o_w45 hw) e5 j5 d17_7 fun T6 X6 e6 => ?_
  refine xi X6 B d17_10 rfl ?_
  refine xa X6 B d17_11 rfl rfl ?_
  refine o_gf X6 B H (o_w47 hw) e6 j4 d17_12 fun T7 X7 e7 => ?_
  refine o_cvi X7 B H e7 (o_rm19_s8 (n0 := n0) hw (by omega) a_3 ob0 ob1 fa_ob0 fa_ob1 j0 j1 j3 j6 j7 j8 hd_a_3_ob0 hd_ob0_ob1 (by omega)) (o_w115 hw) (o_w117 hw) (o_w2 hw) (o_h hw 119 rfl) (o_w116 hw) (o_w118 hw) (o_w118 hw) rfl j3 rfl (lenOf o_pd20 rfl) rfl rfl (W := 0) rfl d17_15 (by decide) ?_
  rintro _ T8 L8 X8 ⟨rfl, N8q, K8q, f9⟩
  have N8 := Fr.app N5 N8q
  have z10 := K8q.1
  have K8 := K0.trans K8q (allS (Or.inl o_m0) all0)
  have z11 := o_lt f9.lt
  exact o_retV X8 B hret d17_18 (by decide) rfl ⟨rfl, N8, K8, f9⟩
theorem o_rm8_s8 (hw : o_T Z a0) (Z0 : n0 ≤ h0.size) (a_1 a_2 ob0 ob1 : Addr) (fa_ob0 fa_ob1 : Nat → Int32) (u_0 : Value) (j0 : o_AV Z h0 ob0 .byte (126 : Int32) (o_by fa_ob0)) (j1 : o_AV Z h0 ob1 .byte (1 : Int32) (o_by fa_ob1)) (j2 : o_E12 Z h0 a_1) (j3 : o_E0 Z h0 a_2) (j4 : o_F9 Z h0 a_1 (.int 0)) (j5 : o_F10 Z h0 a_1 (.int 65)) (j6 : o_F11 Z h0 a_1 u_0) (j7 : o_F8 Z h0 a_1 (.ref ob0)) (j8 : o_F1 Z h0 a_2 (.int 0)) (j9 : o_F2 Z h0 a_2 (.ref ob1)) (j10 : o_G Z h0) (hd_a_1_a_2 : o_df a_1 a_2) (hd_a_1_ob0 : o_df a_1 ob0) (hd_a_1_ob1 : o_df a_1 ob1) (hd_a_2_ob0 : o_df a_2 ob0) (hd_ob0_ob1 : o_df ob0 ob1) (gw_ob0 : n0 ≤ ob0) (gw_a_1 : n0 ≤ a_1) :
    M8' l Z (o_rm 3 0 0 69) #[(.ref a_1), (.ref a_2)] h0 (fun v h L => v = some (.ref a_1) ∧ Fr n0 L ∧ Keep h0 h [ob0, a_1] ∧ o_AV Z h ob0 .byte (126 : Int32) (o_by (o_cpi fa_ob1 0 fa_ob0 65 1)) ∧ o_E12 Z h a_1 ∧ o_F9 Z h a_1 (.int 0) ∧ o_F10 Z h a_1 (.int 66) ∧ o_F11 Z h a_1 u_0 ∧ o_F8 Z h a_1 (.ref ob0)) := by
  refine o_start (plainFor_of_name o_pn3) (L0 := #[.val (.ref a_1), .val (.ref a_2), .unset]) (fun _ => rfl) fun p e s m below meth c s₁ hx hby hml hown hnm hret hZ X0 e0 B H => ?_
  have N0 := Fr.nil n0
  have z0 : n0 ≤ h0.size := Z0
  have z1 := o_lt j0.lt
  have z2 := o_lt j1.lt
  have z3 := o_lt j2.lt
  have z4 := o_lt j3.lt
  have K0 : Keep h0 h0 [ob0, a_1] := Keep.refl h0 _
  refine xa X0 B d8_0 rfl rfl ?_
  refine xN X0 B 1 9 rfl d8_1 (by decide) ?_
  refine xa X0 B d8_9 rfl rfl ?_
  refine o_cvi X0 B H e0 (o_rm9_s3 (n0 := n0) hw (by omega) a_2 ob1 fa_ob1 j1 j3 j8 j9 j10) (o_w60 hw) (o_w62 hw) (o_w2 hw) (o_h hw 64 rfl) (o_w61 hw) (o_w63 hw) (o_w63 hw) rfl j3 rfl (lenOf o_pd15 rfl) rfl rfl (W := 0) rfl d8_10 (by decide) ?_
  rintro _ T5 L5 X5 ⟨rfl, N5q, e5⟩
  have N5 := Fr.app N0 N5q
  refine xs X5 B d8_13 (l' := #[.val (.ref a_1), .val (.ref a_2), .val (.int 1)]) rfl ?_
  refine xa X5 B d8_14 rfl rfl ?_
  refine xa X5 B d8_15 rfl rfl ?_
  refine o_gf X5 B H (o_w71 hw) e5 j5 d8_16 fun T6 X6 e6 => ?_
  refine xi X6 B d8_19 rfl ?_
  refine xadd X6 B d8_20 (66) rfl ?_
  refine o_cpr X6 B H e6 (o_rm11_s7 (n0 := n0) hw (by omega) a_1 ob0 fa_ob0 j0 j4 j7) (o_h hw 73 rfl) (o_w74 hw) (o_w41 hw) (o_h hw 77 rfl) (o_w76 hw) (o_w75 hw) j2 rfl (lenOf o_pd12 rfl) rfl rfl (W := 0) rfl d8_21 (by decide) ?_
  rintro _ T7 L7 X7 ⟨rfl, N7q, e7⟩
  have N7 := Fr.app N5 N7q
  refine xa X7 B d8_24 rfl rfl ?_
  refine xa X7 B d8_25 rfl rfl ?_
  refine o_gf X7 B H (o_w71 hw) e7 j5 d8_26 fun T8 X8 e8 => ?_
  refine xa X8 B d8_29 rfl rfl ?_
  refine o_cpr X8 B H e8 (o_rm17_s8 (n0 := n0) hw (by omega) a_1 a_2 ob0 ob1 fa_ob0 fa_ob1 j0 j1 j2 j3 j4 j7 j8 j9 j10 hd_a_1_ob0 hd_a_2_ob0 hd_ob0_ob1 (by omega)) (o_h hw 104 rfl) (o_w105 hw) (o_w41 hw) (o_h hw 108 rfl) (o_h hw 107 rfl) (o_w106 hw) j2 rfl (lenOf o_pd21 rfl) rfl rfl (W := 0) rfl d8_30 (by decide) ?_
  rintro _ T9 L9 X9 ⟨rfl, N9q, K9q, f10⟩
  have N9 := Fr.app N7 N9q
  have z11 := K9q.1
  have K9 := K0.trans K9q (allS (Or.inl o_m0) all0)
  have z12 := o_lt f10.lt
  refine xa X9 B d8_33 rfl rfl ?_
  refine xd X9 B d8_34 rfl ?_
  have f13 := (j5.keep K9q (ninS hd_a_1_ob0 nin0))
  refine o_gf X9 B H (o_w71 hw) rfl f13 d8_35 fun T14 X14 e14 => ?_
  refine xi X14 B d8_38 rfl ?_
  refine xadd X14 B d8_39 (66) rfl ?_
  have f15 := (j2.keep K9q)
  obtain ⟨T16, h16, X16, e16, W16, st16⟩ := putF X14 hx hZ hown (host := "") (Or.inl (o_w71 hw)) Via.refl e14 f13 f15 (Or.inl (o_w72 hw)) (o_w32 hw) (ty := .int) (by decide) rfl rfl (g := (mkF m 40 #[.val (.ref a_1), .val (.ref a_2), .val (.int 1)] [(.int 66), (.ref a_1)])) rfl rfl (hb hby d8_40)
  have z17 := W16.size
  have K16 := K9.wr W16 (Or.inl (List.mem_of_getElem? (i := 1) rfl))
  have N16 := Fr.snoc X16 N9 (by omega : n0 ≤ a_1)
  have Fw16 : o_F10 Z h16 a_1 (.int 66) := Fld.same W16 f13
  refine o_go st16 ?_
  refine xa X16 B d8_43 rfl rfl ?_
  have f19 := (f10.other W16 hd_a_1_ob0.sym)
  have f20 := (f15.wr W16)
  have f21 := ((j4.keep K9q (ninS hd_a_1_ob0 nin0)).other W16 (Or.inr (slot_ne (Or.inl (o_w48 hw)) (Or.inl (o_w72 hw)) (by decide) (t := .byte) (t' := .int) (by decide) (by decide))))
  have f22 := ((j6.keep K9q (ninS hd_a_1_ob0 nin0)).other W16 (Or.inr (slot_ne (Or.inl (o_w269 hw)) (Or.inl (o_w72 hw)) (by decide) (t := .boolean) (t' := .int) (by decide) (by decide))))
  have f23 := ((j7.keep K9q (ninS hd_a_1_ob0 nin0)).other W16 (Or.inr (slot_ne (Or.inl (o_w46 hw)) (Or.inl (o_w72 hw)) (by decide) (t := (.array .byte)) (t' := .int) (by decide) (by decide))))
  exact o_retA X16 B hret rfl rfl rfl d8_44 (by decide) e16 ⟨rfl, N16, K16, f19, f20, f21, Fw16, f22, f23⟩
theorem o_rm7_s8 (hw : o_T Z a0) (Z0 : n0 ≤ h0.size) (a_1 a_2 ob0 ob1 : Addr) (fa_ob0 fa_ob1 : Nat → Int32) (u_0 : Value) (j0 : o_AV Z h0 ob0 .byte (126 : Int32) (o_by fa_ob0)) (j1 : o_AV Z h0 ob1 .byte (1 : Int32) (o_by fa_ob1)) (j2 : o_E12 Z h0 a_1) (j3 : o_E0 Z h0 a_2) (j4 : o_F9 Z h0 a_1 (.int 0)) (j5 : o_F10 Z h0 a_1 (.int 65)) (j6 : o_F11 Z h0 a_1 u_0) (j7 : o_F8 Z h0 a_1 (.ref ob0)) (j8 : o_F1 Z h0 a_2 (.int 0)) (j9 : o_F2 Z h0 a_2 (.ref ob1)) (j10 : o_G Z h0) (hd_a_1_a_2 : o_df a_1 a_2) (hd_a_1_ob0 : o_df a_1 ob0) (hd_a_1_ob1 : o_df a_1 ob1) (hd_a_2_ob0 : o_df a_2 ob0) (hd_ob0_ob1 : o_df ob0 ob1) (gw_ob0 : n0 ≤ ob0) (gw_a_1 : n0 ≤ a_1) :
    M7' l Z (o_rm 4 0 0 83) #[(.ref a_1), (.ref a_2)] h0 (fun v h L => v = some (.ref a_1) ∧ Fr n0 L ∧ Keep h0 h [ob0, a_1] ∧ o_AV Z h ob0 .byte (126 : Int32) (o_by (o_cpi fa_ob1 0 fa_ob0 65 1)) ∧ o_E12 Z h a_1 ∧ o_F9 Z h a_1 (.int 0) ∧ o_F10 Z h a_1 (.int 66) ∧ o_F11 Z h a_1 u_0 ∧ o_F8 Z h a_1 (.ref ob0)) := by
  refine o_start (plainFor_of_name o_pn4) (L0 := #[.val (.ref a_1), .val (.ref a_2)]) (fun _ => rfl) fun p e s m below meth c s₁ hx hby hml hown hnm hret hZ X0 e0 B H => ?_
  have N0 := Fr.nil n0
  have z0 : n0 ≤ h0.size := Z0
  have z1 := o_lt j0.lt
  have z2 := o_lt j1.lt
  have z3 := o_lt j2.lt
  have z4 := o_lt j3.lt
  have K0 : Keep h0 h0 [ob0, a_1] := Keep.refl h0 _
  refine xa X0 B d7_0 rfl rfl ?_
  refine xa X0 B d7_1 rfl rfl ?_
  refine o_csu X0 B H e0 (o_rm8_s8 (n0 := n0) hw (by omega) a_1 a_2 ob0 ob1 fa_ob0 fa_ob1 u_0 j0 j1 j2 j3 j4 j5 j6 j7 j8 j9 j10 hd_a_1_a_2 hd_a_1_ob0 hd_a_1_ob1 hd_a_2_ob0 hd_ob0_ob1 (by omega) (by omega)) (o_h hw 55 rfl) (o_h hw 56 rfl) (o_w41 hw) (o_h hw 59 rfl) (o_w58 hw) (o_w76 hw) rfl (o_w57 hw) j2 (by decide) rfl (lenOf o_pd22 rfl) rfl rfl (W := 0) rfl d7_2 (by decide) ?_
  rintro _ T5 L5 X5 ⟨rfl, N5q, K5q, f6, f7, f8, f9, f10, f11⟩
  have N5 := Fr.app N0 N5q
  have z12 := K5q.1
  have K5 := K0.trans K5q (allS (Or.inl o_m0) (allS (Or.inl (List.mem_of_getElem? (i := 1) rfl)) all0))
  have z13 := o_lt f6.lt
  have z14 := o_lt f7.lt
  refine xp X5 B d7_5 rfl ?_
  refine xa X5 B d7_6 rfl rfl ?_
  exact o_retA X5 B hret rfl rfl rfl d7_7 (by decide) rfl ⟨rfl, N5, K5, f6, f7, f8, f9, f10, f11⟩
theorem o_rm25_s3 (hw : o_T Z a0) (Z0 : n0 ≤ h0.size) (a_1 : Addr) (j0 : o_F10 Z h0 a_1 (.int 66)) :
    M25' l Z (o_rm 0 0 0 0) #[(.ref a_1)] h0 (fun v h L => v = some (.int 66) ∧ Fr n0 L ∧ h = h0) := by
  refine o_start (plainFor_of_name o_pn3) (L0 := #[.val (.ref a_1)]) (fun _ => rfl) fun p e s m below meth c s₁ hx hby hml hown hnm hret hZ X0 e0 B H => ?_
  have N0 := Fr.nil n0
  have z0 : n0 ≤ h0.size := Z0
  have z1 := o_lt j0.lt
  refine xa X0 B d25_0 rfl rfl ?_
  refine o_gf X0 B H (o_w71 hw) e0 j0 d25_1 fun T2 X2 e2 => ?_
  exact o_retI X2 B hret (Or.inl rfl) rfl d25_4 (by decide) e2 ⟨rfl, N0, rfl⟩
theorem o_rm24_s3 (hw : o_T Z a0) (Z0 : n0 ≤ h0.size) (a_1 : Addr) (j0 : o_E12 Z h0 a_1) (j1 : o_F10 Z h0 a_1 (.int 66)) :
    M24' l Z (o_rm 1 0 0 12) #[(.ref a_1)] h0 (fun v h L => v = some (.int 66) ∧ Fr n0 L ∧ h = h0) := by
  refine o_start (plainFor_of_name o_pn4) (L0 := #[.val (.ref a_1)]) (fun _ => rfl) fun p e s m below meth c s₁ hx hby hml hown hnm hret hZ X0 e0 B H => ?_
  have N0 := Fr.nil n0
  have z0 : n0 ≤ h0.size := Z0
  have z1 := o_lt j0.lt
  refine xa X0 B d24_0 rfl rfl ?_
  refine o_csu X0 B H e0 (o_rm25_s3 (n0 := n0) hw (by omega) a_1  j1) (o_h hw 145 rfl) (o_h hw 141 rfl) (o_w41 hw) (o_h hw 146 rfl) (o_h hw 140 rfl) (o_w76 hw) rfl (o_w57 hw) j0 (by decide) rfl (lenOf o_pd15 rfl) rfl rfl (W := 0) rfl d24_1 (by decide) ?_
  rintro _ T2 L2 X2 ⟨rfl, N2q, e2⟩
  have N2 := Fr.app N0 N2q
  exact o_retI X2 B hret (Or.inl rfl) rfl d24_4 (by decide) e2 ⟨rfl, N2, rfl⟩
theorem o_rm29_s4 (hw : o_T Z a0) (Z0 : n0 ≤ h0.size) :
    M29' l Z (o_rm 0 0 0 0) #[(.int 0), (.int 66)] h0 (fun v h L => v = none ∧ Fr n0 L ∧ h = h0) := by
  refine o_start (plainFor_of_name o_pn6) (L0 := #[.val (.int 0), .val (.int 66)]) (fun _ => rfl) fun p e s m below meth c s₁ hx hby hml hown hnm hret hZ X0 e0 B H => ?_
  have N0 := Fr.nil n0
  have z0 : n0 ≤ h0.size := Z0
  refine xi X0 B d29_0 rfl ?_
  refine xi X0 B d29_1 rfl ?_
  have hc1 : ¬ ((66 : Int32) < (0 : Int32)) := by decide
  refine xM X0 B 2 37 rfl d29_2 (XT.ii_ge_t hc1) (by decide) ?_
  exact o_retV X0 B hret d29_37 (by decide) e0 ⟨rfl, N0, rfl⟩
theorem o_rm16_s6 (hw : o_T Z a0) (Z0 : n0 ≤ h0.size) :
    M16' l Z (o_rm 0 0 0 0) #[(.int 126), (.int 66)] h0 (fun v h L => v = some (.int 66) ∧ Fr n0 L ∧ h = h0) := by
  refine o_start (Jvm.Free.JP.mathPlain rfl (by decide +kernel)) (L0 := #[.val (.int 126), .val (.int 66)]) (fun _ => rfl) fun p e s m below meth c s₁ hx hby hml hown hnm hret hZ X0 e0 B H => ?_
  have N0 := Fr.nil n0
  have z0 : n0 ≤ h0.size := Z0
  refine xi X0 B d16_0 rfl ?_
  refine xi X0 B d16_1 rfl ?_
  have hc1 : (66 : Int32) < (126 : Int32) := by decide
  refine xM X0 B 2 9 rfl d16_2 (XT.ii_gt_t hc1) (by decide) ?_
  refine xi X0 B d16_9 rfl ?_
  exact o_retI X0 B hret (Or.inl rfl) rfl d16_10 (by decide) e0 ⟨rfl, N0, rfl⟩
theorem o_rm28_s4 (hw : o_T Z a0) (Z0 : n0 ≤ h0.size) (a_1 : Addr) (fa_a_1 : Nat → Int32) (j0 : o_AV Z h0 a_1 .byte (126 : Int32) (o_by fa_a_1)) :
    M28' l Z (o_rm 1 1 66 40) #[(.ref a_1), (.int 0), (.int 66)] h0 (fun v h L => ∃ (x_0 : Addr), v = some (.ref x_0) ∧ Fr n0 L ∧ Keep h0 h [] ∧ o_AV Z h x_0 .byte (66 : Int32) (o_by (o_cpi fa_a_1 0 (fun _ => 0) 0 66)) ∧ (h0.size ≤ x_0)) := by
  refine o_start (plainFor_of_name o_pn6) (L0 := #[.val (.ref a_1), .val (.int 0), .val (.int 66), .unset, .unset]) (fun _ => rfl) fun p e s m below meth c s₁ hx hby hml hown hnm hret hZ X0 e0 B H => ?_
  have N0 := Fr.nil n0
  have z0 : n0 ≤ h0.size := Z0
  have z1 := o_lt j0.lt
  have K0 : Keep h0 h0 [] := Keep.refl h0 _
  refine xi X0 B d28_0 rfl ?_
  refine xi X0 B d28_1 rfl ?_
  refine o_cst X0 B H e0 (o_rm29_s4 (n0 := n0) hw (by omega)   ) (o_h hw 158 rfl) (o_h hw 159 rfl) (o_w95 hw) (o_h hw 160 rfl) rfl (lenOf o_pd26 rfl) rfl rfl (W := 0) rfl d28_2 (by decide) ?_
  rintro _ T2 L2 X2 ⟨rfl, N2q, e2⟩
  have N2 := Fr.app N0 N2q
  refine xi X2 B d28_5 rfl ?_
  refine xi X2 B d28_6 rfl ?_
  refine xsub X2 B d28_7 (66) rfl ?_
  refine xs X2 B d28_8 (l' := #[.val (.ref a_1), .val (.int 0), .val (.int 66), .val (.int 66), .unset]) rfl ?_
  refine xi X2 B d28_9 rfl ?_
  obtain ⟨T3, h3, k3, X3, e3, E3, A3, st3⟩ := newP X2 hx hZ (hw _ (List.mem_of_getElem? (i := 15) rfl)) e2 (g := (mkF m 10 #[.val (.ref a_1), .val (.int 0), .val (.int 66), .val (.int 66), .unset] [(.int 66)])) rfl (hb hby d28_10) rfl (by decide) (cap := 66) (by decide) (by decide) (by decide) (by decide)
  obtain ⟨b3, g3⟩ : ∃ z, z = h0.size := ⟨_, rfl⟩
  rw [← g3] at A3 st3
  have z4 := E3.1
  have lt_b3 := o_lt A3.lt
  have K3 := K0.ext E3
  have V_b3 : o_AV Z h3 b3 .byte (66 : Int32) (o_by (fun _ => 0)) := o_AV.congr (o_AV.new A3 (by decide)) fun i _ => (o_by0 i).symm
  refine o_go st3 ?_
  refine xT X3 B d28_12 rfl (l' := #[.val (.ref a_1), .val (.int 0), .val (.int 66), .val (.int 66), .val (.ref b3)]) rfl ?_
  refine xa X3 B d28_14 rfl rfl ?_
  refine xi X3 B d28_15 rfl ?_
  refine xA X3 B d28_16 rfl rfl ?_
  refine xc X3 B d28_18 0 rfl ?_
  refine xa X3 B d28_19 rfl rfl ?_
  have f5 := (j0.ext E3)
  refine xl X3 B H e3 f5 d28_20 ?_
  refine xi X3 B d28_21 rfl ?_
  refine xsub X3 B d28_22 (126) rfl ?_
  refine xi X3 B d28_23 rfl ?_
  refine o_cst X3 B H e3 (o_rm16_s6 (n0 := n0) hw (by omega)   ) (o_h hw 97 rfl) (o_h hw 98 rfl) (o_w89 hw) (o_h hw 99 rfl) rfl (lenOf o_pd16 rfl) rfl rfl (W := 4) rfl d28_24 (by decide) ?_
  rintro _ T6 L6 X6 ⟨rfl, N6q, e6⟩
  have N6 := Fr.app N2 N6q
  obtain ⟨T7, h7, L7, X7, e7, N7, Kq7, V7, st7⟩ := o_cpB X6 hx hZ hown (o_h hw 100 rfl) (o_w103 hw) (o_w101 hw) (o_w102 hw) e6 f5 V_b3 (sp' := 0) (dp' := 0) (nn' := 66) (by decide) (by decide) (by decide) (by decide) (by decide) (by decide) (by decide) (by decide) N6 (by omega) (g := (mkF m 27 #[.val (.ref a_1), .val (.int 0), .val (.int 66), .val (.int 66), .val (.ref b3)] [(.int 66), (.int 0), (.ref b3), (.int 0), (.ref a_1)])) rfl (by rw [hml]; rfl) rfl (hb hby d28_27) (by decide) (W := 0) (by show 2 * 0 + _ ≤ _; exact Nat.le_of_eq rfl) (by decide)
  have z8 := Kq7.1
  have K7 := K3.trans Kq7 (allS (Or.inr (by omega)) all0)
  refine o_go st7 ?_
  refine xA X7 B d28_30 rfl rfl ?_
  exact o_retA X7 B hret rfl rfl rfl d28_32 (by decide) e7 ⟨b3, rfl, N7, K7, V7, (by omega)⟩
theorem o_rm27_s4 (hw : o_T Z a0) (Z0 : n0 ≤ h0.size) (a_1 : Addr) (fa_a_1 : Nat → Int32) (j0 : o_AV Z h0 a_1 .byte (126 : Int32) (o_by fa_a_1)) :
    M27' l Z (o_rm 2 1 66 56) #[(.ref a_1), (.int 0), (.int 66)] h0 (fun v h L => ∃ (x_0 : Addr), v = some (.ref x_0) ∧ Fr n0 L ∧ Keep h0 h [] ∧ o_AV Z h x_0 .byte (66 : Int32) (o_by (o_cpi fa_a_1 0 (fun _ => 0) 0 66)) ∧ (h0.size ≤ x_0)) := by
  refine o_start (plainFor_of_name o_pn6) (L0 := #[.val (.ref a_1), .val (.int 0), .val (.int 66)]) (fun _ => rfl) fun p e s m below meth c s₁ hx hby hml hown hnm hret hZ X0 e0 B H => ?_
  have N0 := Fr.nil n0
  have z0 : n0 ≤ h0.size := Z0
  have z1 := o_lt j0.lt
  have K0 : Keep h0 h0 [] := Keep.refl h0 _
  refine xi X0 B d27_0 rfl ?_
  have hc2 : (0 : Int32) = 0 := by decide
  refine xn X0 B d27_1 (XT.i0_ne_f hc2) ?_
  refine xi X0 B d27_4 rfl ?_
  refine xa X0 B d27_5 rfl rfl ?_
  refine xl X0 B H e0 j0 d27_6 ?_
  have hc3 : ¬ ((66 : Int32) = (126 : Int32)) := by decide
  refine xm X0 B d27_7 (XT.ii_eq_f hc3) ?_
  refine xa X0 B d27_10 rfl rfl ?_
  refine xi X0 B d27_11 rfl ?_
  refine xi X0 B d27_12 rfl ?_
  refine o_cst X0 B H e0 (o_rm28_s4 (n0 := n0) hw (by omega) a_1 fa_a_1 j0) (o_h hw 155 rfl) (o_h hw 156 rfl) (o_w95 hw) (o_h hw 157 rfl) rfl (lenOf o_pd27 rfl) rfl rfl (W := 0) rfl d27_13 (by decide) ?_
  rintro _ T4 L4 X4 ⟨x_5, rfl, N4q, K4q, f6, f7⟩
  have N4 := Fr.app N0 N4q
  have z8 := K4q.1
  have K4 := K0.trans K4q all0
  have z9 := o_lt f6.lt
  exact o_retA X4 B hret rfl rfl rfl d27_16 (by decide) rfl ⟨x_5, rfl, N4, K4, f6, (by omega)⟩
theorem o_rm22_s4 (hw : o_T Z a0) (Z0 : n0 ≤ h0.size) (a_1 a_2 ob0 : Addr) (fa_ob0 : Nat → Int32) (u_0 u_1 : Value) (j0 : o_AV Z h0 ob0 .byte (126 : Int32) (o_by fa_ob0)) (j1 : o_E0 Z h0 a_1) (j2 : o_E12 Z h0 a_2) (j3 : o_F1 Z h0 a_1 u_0) (j4 : o_F2 Z h0 a_1 u_1) (j5 : o_F9 Z h0 a_2 (.int 0)) (j6 : o_F10 Z h0 a_2 (.int 66)) (j7 : o_F8 Z h0 a_2 (.ref ob0)) (j8 : o_G Z h0) (hd_a_1_a_2 : o_df a_1 a_2) (hd_a_1_ob0 : o_df a_1 ob0) (gw_a_1 : n0 ≤ a_1) :
    M22' l Z (o_rm 3 1 66 71) #[(.ref a_1), (.ref a_2), .null] h0 (fun v h L => ∃ (x_0 : Addr), v = none ∧ Fr n0 L ∧ Keep h0 h [a_1] ∧ o_E0 Z h a_1 ∧ o_F1 Z h a_1 (.int 0) ∧ o_F2 Z h a_1 (.ref x_0) ∧ o_AV Z h x_0 .byte (66 : Int32) (o_by (o_cpi fa_ob0 0 (fun _ => 0) 0 66)) ∧ (h0.size ≤ x_0)) := by
  refine o_start (plainFor_of_name o_pn2) (L0 := #[.val (.ref a_1), .val (.ref a_2), .val .null, .unset, .unset]) (fun _ => rfl) fun p e s m below meth c s₁ hx hby hml hown hnm hret hZ X0 e0 B H => ?_
  have N0 := Fr.nil n0
  have z0 : n0 ≤ h0.size := Z0
  have z1 := o_lt j0.lt
  have z2 := o_lt j1.lt
  have z3 := o_lt j2.lt
  have K0 : Keep h0 h0 [a_1] := Keep.refl h0 _
  refine xa X0 B d22_0 rfl rfl ?_
  obtain ⟨T4, X4, e4, st4⟩ := initO X0 hx hZ hown (o_w11 hw) (o_w12 hw) (o_w13 hw) e0 (g := (mkF m 1 #[.val (.ref a_1), .val (.ref a_2), .val .null, .unset, .unset] [(.ref a_1)])) rfl (by rw [hml]; rfl) rfl (hb hby d22_1) (by decide) (W := 0) (by show 2 * 0 + _ ≤ _; exact Nat.le_of_eq rfl) (by decide)
  refine o_go st4 ?_
  refine xa X4 B d22_4 rfl rfl ?_
  refine o_cvi X4 B H e4 (o_rm23_s1 (n0 := n0) hw (by omega) a_2 ob0 j7) (o_h hw 134 rfl) (o_h hw 136 rfl) (o_w41 hw) (o_h hw 138 rfl) (o_h hw 135 rfl) (o_h hw 137 rfl) (o_h hw 137 rfl) rfl j2 rfl (lenOf o_pd24 rfl) rfl rfl (W := 0) rfl d22_5 (by decide) ?_
  rintro _ T5 L5 X5 ⟨rfl, N5q, e5⟩
  have N5 := Fr.app N0 N5q
  refine xt X5 B d22_8 rfl (l' := #[.val (.ref a_1), .val (.ref a_2), .val .null, .val (.ref ob0), .unset]) rfl ?_
  refine xa X5 B d22_9 rfl rfl ?_
  refine o_cvi X5 B H e5 (o_rm24_s3 (n0 := n0) hw (by omega) a_2  j2 j6) (o_h hw 139 rfl) (o_h hw 143 rfl) (o_w33 hw) (o_h hw 144 rfl) (o_h hw 140 rfl) (o_h hw 142 rfl) (o_w76 hw) rfl j2 rfl (lenOf o_pd15 rfl) rfl rfl (W := 0) rfl d22_10 (by decide) ?_
  rintro _ T6 L6 X6 ⟨rfl, N6q, e6⟩
  have N6 := Fr.app N5 N6q
  refine xS X6 B d22_13 (l' := #[.val (.ref a_1), .val (.ref a_2), .val .null, .val (.ref ob0), .val (.int 66)]) rfl ?_
  refine xa X6 B d22_15 rfl rfl ?_
  refine o_cvi X6 B H e6 (o_rm26_s1 (n0 := n0) hw (by omega) a_2  j5 j8) (o_h hw 147 rfl) (o_h hw 149 rfl) (o_w41 hw) (o_h hw 151 rfl) (o_h hw 148 rfl) (o_w150 hw) (o_w150 hw) rfl j2 rfl (lenOf o_pd25 rfl) rfl rfl (W := 0) rfl d22_16 (by decide) ?_
  rintro _ T7 L7 X7 ⟨rfl, N7q, e7⟩
  have N7 := Fr.app N6 N7q
  have hc8 : ¬ ((1 : Int32) = 0) := by decide
  refine xn X7 B d22_19 (XT.i0_eq_f hc8) ?_
  refine xa X7 B d22_22 rfl rfl ?_
  refine xc X7 B d22_23 0 rfl ?_
  obtain ⟨T9, h9, X9, e9, W9, st9⟩ := putFN X7 hx hZ hown (o_w21 hw) Via.refl e7 j3 j1 (Or.inr ⟨(o_w17 hw), rfl, hnm⟩) (o_w1 hw) (ty := .byte) (v' := .int 0) (by decide) (rfl) (fits_nar_byte (0 : Int32)) (g := (mkF m 24 #[.val (.ref a_1), .val (.ref a_2), .val .null, .val (.ref ob0), .val (.int 66)] [(.int 0), (.ref a_1)])) rfl rfl (hb hby d22_24)
  have z10 := W9.size
  have K9 := K0.wr W9 (Or.inl o_m0)
  have N9 := Fr.snoc X9 N7 (by omega : n0 ≤ a_1)
  have Fw9 : o_F1 Z h9 a_1 (.int 0) := Fld.same W9 j3
  refine o_go st9 ?_
  refine xa X9 B d22_27 rfl rfl ?_
  refine xa X9 B d22_28 rfl rfl ?_
  refine xc X9 B d22_29 0 rfl ?_
  refine xI X9 B d22_30 rfl ?_
  have f11 := (j0.other W9 hd_a_1_ob0.sym)
  refine o_cst X9 B H e9 (o_rm27_s4 (n0 := n0) hw (by omega) ob0 fa_ob0 f11) (o_h hw 152 rfl) (o_h hw 153 rfl) (o_w95 hw) (o_h hw 154 rfl) rfl (lenOf o_pd27 rfl) rfl rfl (W := 1) rfl d22_32 (by decide) ?_
  rintro _ T12 L12 X12 ⟨x_13, rfl, N12q, K12q, f14, f15⟩
  have N12 := Fr.app N9 N12q
  have z16 := K12q.1
  have K12 := K9.trans K12q all0
  have z17 := o_lt f14.lt
  have f18 := ((j1.wr W9).keep K12q)
  have f19 := ((j4.other W9 (Or.inr (slot_ne (Or.inr (o_w16 hw)) (Or.inr (o_w17 hw)) (by decide) (t := (.array .byte)) (t' := .byte) (by decide) (by decide)))).keep K12q nin0)
  obtain ⟨T20, h20, X20, e20, W20, st20⟩ := putF X12 hx hZ hown (host := "") (Or.inl (o_w20 hw)) Via.refl rfl f19 f18 (Or.inr ⟨(o_w16 hw), rfl, hnm⟩) (o_w1 hw) (ty := (.array .byte)) (by decide) rfl rfl (g := (mkF m 35 #[.val (.ref a_1), .val (.ref a_2), .val .null, .val (.ref ob0), .val (.int 66)] [(.ref x_13), (.ref a_1)])) rfl rfl (hb hby d22_35)
  have z21 := W20.size
  have K20 := K12.wr W20 (Or.inl o_m0)
  have N20 := Fr.snoc X20 N12 (by omega : n0 ≤ a_1)
  have Fw20 : o_F2 Z h20 a_1 (.ref x_13) := Fld.same W20 f19
  refine o_go st20 ?_
  refine xg X20 B 38 97 rfl d22_38 (by decide) ?_
  have f23 := (f18.wr W20)
  have f24 := ((Fw9.keep K12q nin0).other W20 (Or.inr (slot_ne (Or.inr (o_w17 hw)) (Or.inr (o_w16 hw)) (by decide) (t := .byte) (t' := (.array .byte)) (by decide) (by decide))))
  have f25 := (f14.other W20 (o_ne (by omega)))
  exact o_retV X20 B hret d22_97 (by decide) e20 ⟨x_13, rfl, N20, K20, f23, f24, Fw20, f25, (by omega)⟩
theorem o_rm21_s4 (hw : o_T Z a0) (Z0 : n0 ≤ h0.size) (a_1 a_2 ob0 : Addr) (fa_ob0 : Nat → Int32) (u_0 u_1 : Value) (j0 : o_AV Z h0 ob0 .byte (126 : Int32) (o_by fa_ob0)) (j1 : o_E0 Z h0 a_1) (j2 : o_E12 Z h0 a_2) (j3 : o_F1 Z h0 a_1 u_0) (j4 : o_F2 Z h0 a_1 u_1) (j5 : o_F9 Z h0 a_2 (.int 0)) (j6 : o_F10 Z h0 a_2 (.int 66)) (j7 : o_F8 Z h0 a_2 (.ref ob0)) (j8 : o_G Z h0) (hd_a_1_a_2 : o_df a_1 a_2) (hd_a_1_ob0 : o_df a_1 ob0) (gw_a_1 : n0 ≤ a_1) :
    M21' l Z (o_rm 4 1 66 87) #[(.ref a_1), (.ref a_2)] h0 (fun v h L => ∃ (x_0 : Addr), v = none ∧ Fr n0 L ∧ Keep h0 h [a_1] ∧ o_E0 Z h a_1 ∧ o_F1 Z h a_1 (.int 0) ∧ o_F2 Z h a_1 (.ref x_0) ∧ o_AV Z h x_0 .byte (66 : Int32) (o_by (o_cpi fa_ob0 0 (fun _ => 0) 0 66)) ∧ (h0.size ≤ x_0)) := by
  refine o_start (plainFor_of_name o_pn2) (L0 := #[.val (.ref a_1), .val (.ref a_2)]) (fun _ => rfl) fun p e s m below meth c s₁ hx hby hml hown hnm hret hZ X0 e0 B H => ?_
  have N0 := Fr.nil n0
  have z0 : n0 ≤ h0.size := Z0
  have z1 := o_lt j0.lt
  have z2 := o_lt j1.lt
  have z3 := o_lt j2.lt
  have K0 : Keep h0 h0 [a_1] := Keep.refl h0 _
  refine xa X0 B d21_0 rfl rfl ?_
  refine xa X0 B d21_1 rfl rfl ?_
  refine xu X0 B d21_2 ?_
  refine o_csp (a := a_1) X0 B H e0 (o_rm22_s4 (n0 := n0) hw (by omega) a_1 a_2 ob0 fa_ob0 u_0 u_1 j0 j1 j2 j3 j4 j5 j6 j7 j8 hd_a_1_a_2 hd_a_1_ob0 (by omega)) (o_h hw 131 rfl) (o_h hw 132 rfl) (o_w2 hw) (o_h hw 133 rfl) rfl rfl (lenOf o_pd28 rfl) rfl rfl (W := 0) rfl d21_3 (by decide) ?_
  rintro _ T4 L4 X4 ⟨x_5, rfl, N4q, K4q, f6, f7, f8, f9, f10⟩
  have N4 := Fr.app N0 N4q
  have z11 := K4q.1
  have K4 := K0.trans K4q (allS (Or.inl o_m0) all0)
  have z12 := o_lt f6.lt
  have z13 := o_lt f9.lt
  exact o_retV X4 B hret d21_6 (by decide) rfl ⟨x_5, rfl, N4, K4, f6, f7, f8, f9, (by omega)⟩
theorem o_rm20_s4 (hw : o_T Z a0) (Z0 : n0 ≤ h0.size) (a_1 ob0 : Addr) (fa_ob0 : Nat → Int32) (j0 : o_AV Z h0 ob0 .byte (126 : Int32) (o_by fa_ob0)) (j1 : o_E12 Z h0 a_1) (j2 : o_F9 Z h0 a_1 (.int 0)) (j3 : o_F10 Z h0 a_1 (.int 66)) (j4 : o_F8 Z h0 a_1 (.ref ob0)) (j5 : o_G Z h0) :
    M20' l Z (o_rm 5 2 70 101) #[(.ref a_1)] h0 (fun v h L => ∃ (x_0 : Addr) (x_1 : Addr), v = some (.ref x_0) ∧ Fr n0 L ∧ Keep h0 h [] ∧ o_E0 Z h x_0 ∧ o_F1 Z h x_0 (.int 0) ∧ o_F2 Z h x_0 (.ref x_1) ∧ o_AV Z h x_1 .byte (66 : Int32) (o_by (o_cpi fa_ob0 0 (fun _ => 0) 0 66)) ∧ (h0.size ≤ x_0) ∧ (h0.size ≤ x_1) ∧ (o_lts [x_0, x_1])) := by
  refine o_start (plainFor_of_name o_pn4) (L0 := #[.val (.ref a_1)]) (fun _ => rfl) fun p e s m below meth c s₁ hx hby hml hown hnm hret hZ X0 e0 B H => ?_
  have N0 := Fr.nil n0
  have z0 : n0 ≤ h0.size := Z0
  have z1 := o_lt j0.lt
  have z2 := o_lt j1.lt
  have K0 : Keep h0 h0 [] := Keep.refl h0 _
  obtain ⟨T3, h3, X3, e3, E3, A3, D3, Y3, st3⟩ := newO X0 hx hZ hown (o_h hw 127 rfl) (o_w1 hw) (o_w2 hw) e0 (g := (mkF m 0 #[.val (.ref a_1)] [])) rfl (hb hby d20_0) (by decide) (by decide)
  obtain ⟨b3, g3⟩ : ∃ z, z = h0.size := ⟨_, rfl⟩
  rw [← g3] at A3 D3 Y3 st3
  have z4 := E3.1
  have lt_b3 := o_lt A3.lt
  have K3 := K0.ext E3
  have F_value_b3 : o_F2 Z h3 b3 .null := D3 (Or.inr (o_w16 hw)) (ty := (.array .byte)) (by decide)
  have F_coder_b3 : o_F1 Z h3 b3 (.int 0) := D3 (Or.inr (o_w17 hw)) (ty := .byte) (by decide)
  refine o_go st3 ?_
  refine xd X3 B d20_3 rfl ?_
  refine xa X3 B d20_4 rfl rfl ?_
  have f5 := (j0.ext E3)
  have f6 := (j1.ext E3)
  have f7 := (j2.ext E3)
  have f8 := (j3.ext E3)
  have f9 := (j4.ext E3)
  have f10 := (j5.ext E3)
  refine o_csp (a := b3) X3 B H e3 (o_rm21_s4 (n0 := n0) hw (by omega) b3 a_1 ob0 fa_ob0 (.int 0) .null f5 A3 f6 F_coder_b3 F_value_b3 f7 f8 f9 f10 (o_ne (by omega)) (o_ne (by omega)) (by omega)) (o_h hw 128 rfl) (o_h hw 129 rfl) (o_w2 hw) (o_h hw 130 rfl) rfl rfl (lenOf o_pd29 rfl) rfl rfl (W := 1) rfl d20_5 (by decide) ?_
  rintro _ T11 L11 X11 ⟨x_12, rfl, N11q, K11q, f13, f14, f15, f16, f17⟩
  have N11 := Fr.app N0 N11q
  have z18 := K11q.1
  have K11 := K3.trans K11q (allS (Or.inr (by omega)) all0)
  have z19 := o_lt f13.lt
  have z20 := o_lt f16.lt
  exact o_retA X11 B hret rfl rfl rfl d20_8 (by decide) rfl ⟨b3, x_12, rfl, N11, K11, f13, f14, f15, f16, (by omega), (by omega), (by simp only [o_lts, and_true]; omega)⟩
theorem o_ef_own_rm4_k3L (m : MethodId) (x0 : Addr) : entryFrame m #[(.ref x0)] 1 = mkF m 0 #[.val (.ref x0)] [] := by first | (simp [entryFrame, mkF, argsToLocals, Value.category]; done) | rfl
def o_Q4_k3L (Z : State) (a_1 : Addr) (oq : Addr) (fq : Nat → Int32) (h0 : Heap) (n0 : Nat) (v : Option Value) (h : Heap) (L : List Loc) : Prop := ∃ (x_0 : Addr) (x_1 : Addr) (x_2 : Addr), v = some (.ref x_0) ∧ Fr n0 L ∧ Keep h0 h [] ∧ o_E13 Z h x_0 ∧ o_F3 Z h x_0 .null ∧ o_F6 Z h x_0 (.ref x_1) ∧ o_F7 Z h x_0 (.ref (o_iq Z)) ∧ o_F4 Z h x_0 .null ∧ o_F5 Z h x_0 .null ∧ o_E0 Z h x_1 ∧ o_F1 Z h x_1 (.int 0) ∧ o_F2 Z h x_1 (.ref x_2) ∧ o_AV Z h x_2 .byte (66 : Int32) (o_by (o_cpi (o_cpi (o_ls [46]) 0 (o_cpi fq 0 (o_cpi (o_cpi (o_ls o_T62) 0 (o_cpi (fun _ => 0) 0 (fun _ => 0) 0 16) 0 62) 0 (fun _ => 0) 0 62) 62 3) 65 1) 0 (fun _ => 0) 0 66)) ∧ (h0.size ≤ x_0) ∧ (h0.size ≤ x_1) ∧ (h0.size ≤ x_2) ∧ (o_lts [x_0, x_1, x_2])
theorem o_rm4_k3L (l : Launch) (Z : State) (a0 : Array Value) (hw : ∀ d ∈ tables_1, d.before a0 Z = true) (ws : List Jvm.Cond) (a_1 : Addr) (oq : Addr) (fq : Nat → Int32) (h0 : Heap) (n0 : Nat) (Z0 : n0 ≤ h0.size) (j0 : o_G Z h0) (j1 : o_E0 Z h0 a_1) (j2 : o_F2 Z h0 a_1 (.ref oq)) (j3 : o_F1 Z h0 a_1 (.int 0)) (j4 : o_AV Z h0 oq .byte (3 : Int32) (o_by fq)) (hg_n0 : n0 = h0.size) (hold : o_old Z h0) :
    MetFree l (⟨"com/example/orderly_storefront/orderlystorefront/cart/CartException", "invalidQuantity", "(Ljava/lang/String;)Lcom/example/orderly_storefront/orderlystorefront/cart/CartException;"⟩ : MethodName) (head1 (Jvm.Cond.code (⟨"com/example/orderly_storefront/orderlystorefront/cart/CartException", "invalidQuantity", "(Ljava/lang/String;)Lcom/example/orderly_storefront/orderlystorefront/cart/CartException;"⟩ : MethodName) prog_5_method_2_code 1 (some (.object "com/example/orderly_storefront/orderlystorefront/cart/CartException")) :: ws) ({ frames := 6, cells := 11, slots := 545, locals := 116 } : Room)) (fun a U => a = #[(.ref a_1)] ∧ Z.Warmed39 U.vm ∧ U.heap = h0 ∧ (fun vm : Vm => Jvm.ConstHeldL (Z.setVm vm) "com/example/orderly_storefront/orderlystorefront/cart/CartException" 25 ∧ Jvm.ConstHeldL (Z.setVm vm) "com/example/orderly_storefront/orderlystorefront/cart/CartException" 31 ∧ Jvm.ConstHeldL (Z.setVm vm) "com/example/orderly_storefront/orderlystorefront/cart/CartExceptionInvalidQuantityPinLaw" 28) U.vm) (fun _ _ _ _ _ => True) (fun _ U o U' => ∃ v L, o = .returned v ∧ (o_Q4_k3L Z a_1 oq fq h0 n0 v U'.heap L ∧ (fun vm : Vm => Jvm.ConstHeldL (Z.setVm vm) "com/example/orderly_storefront/orderlystorefront/cart/CartExceptionInvalidQuantityPinLaw" 28) U'.vm) ∧ ReturnedEndW U o U' L ({ frames := 6, cells := 11, slots := 545, locals := 116 } : Room).cells ({ frames := 6, cells := 11, slots := 545, locals := 116 } : Room).slots) := by
  refine MetFree.of_bodySF (plainFor_of_name o_pn9) hisR ?_
  intro p e s m args below meth c s₁ Bd hml0 hP hK
  obtain ⟨rfl, hZ, hh, ⟨hp0, hp1, hp2⟩⟩ := hP
  have hx := Bd.exec
  have hby := Bd.bytes
  have hml : c.maxLocals = 1 := hml0
  have hown : s.vm.findClass "com/example/orderly_storefront/orderlystorefront/cart/CartException" = some m.cls := findClass_of_methodNamed Bd.named
  have hnm := (name_of_methodNamed Bd.named Bd.method).1
  have X0 : Stand p l e ({ frames := 6, cells := 11, slots := 545, locals := 116 } : Room) s m #[(.ref a_1)] below meth c s₁ [] 0 0 := Stand.of_body Bd
  have e0 : s₁.heap = h0 := by rw [← hh, Bd.state]; rfl
  have N0 := Fr.nil n0
  have B : o_C p c _ := ⟨hx, hby⟩
  have H : o_H s Z m _ c _ := ⟨hZ, hown, hml⟩
  have X0 : Stand p l e ({ frames := 6, cells := 11, slots := 545, locals := 116 } : Room) (s.setVm s.vm) m #[(.ref a_1)] below meth c s₁ [] 0 0 := X0
  have hZ : Z.Warmed39 (s.setVm s.vm).vm := hZ
  have hown : (s.setVm s.vm).vm.findClass "com/example/orderly_storefront/orderlystorefront/cart/CartException" = some m.cls := hown
  have hS0 : s.Since s.vm 0 := (State.WarmedH.refl s).since 0
  have H : o_H _ Z m _ c _ := ⟨hZ, hown, hml⟩
  have z0 : n0 ≤ h0.size := Z0
  have z1 := o_lt j1.lt
  have z2 := o_lt j4.lt
  have K0 : Keep h0 h0 [] := Keep.refl h0 _
  show o_Go p.tables e below (fun t o => t.status = .running ∧ Ended t below o ∧ ∃ v L, o = .returned v ∧ (o_Q4_k3L Z a_1 oq fq h0 n0 v t.heap L ∧ (fun vm : Vm => Jvm.ConstHeldL (Z.setVm vm) "com/example/orderly_storefront/orderlystorefront/cart/CartExceptionInvalidQuantityPinLaw" 28) t.vm) ∧ ReturnedEndW s o t L ({ frames := 6, cells := 11, slots := 545, locals := 116 } : Room).cells ({ frames := 6, cells := 11, slots := 545, locals := 116 } : Room).slots) s₁ (entryFrame m #[(.ref a_1)] 1)
  rw [o_ef_own_rm4_k3L m a_1]
  show o_Go _ _ _ _ s₁ (mkF m 0 #[.val (.ref a_1)] [])
  obtain ⟨T3, h3, X3, e3, E3, A3, D3, Y3, st3⟩ := newO X0 hx hZ hown (o_h hw 26 rfl) (o_w27 hw) (o_w24 hw) e0 (g := (mkF m 0 #[.val (.ref a_1)] [])) rfl (hb hby d4_0) (by decide) (by decide)
  obtain ⟨b3, g3⟩ : ∃ z, z = h0.size := ⟨_, rfl⟩
  rw [← g3] at A3 D3 Y3 st3
  have z4 := E3.1
  have lt_b3 := o_lt A3.lt
  have K3 := K0.ext E3
  have F_cause_b3 : o_F3 Z h3 b3 .null := D3 (Or.inl (o_w177 hw)) (ty := (.object "java/lang/Throwable")) (by decide)
  have F_stackTrace_b3 : o_F4 Z h3 b3 .null := D3 (Or.inl (o_w180 hw)) (ty := (.array (.object "java/lang/StackTraceElement"))) (by decide)
  have F_suppressedExceptions_b3 : o_F5 Z h3 b3 .null := D3 (Or.inl (o_w183 hw)) (ty := (.object "java/util/List")) (by decide)
  have F_detailMessage_b3 : o_F6 Z h3 b3 .null := D3 (Or.inl (o_w185 hw)) (ty := (.object "java/lang/String")) (by decide)
  have F_reason_b3 : o_F7 Z h3 b3 .null := D3 (Or.inr (o_w187 hw)) (ty := (.object "com/example/orderly_storefront/orderlystorefront/cart/CartException$Reason")) (by decide)
  refine o_go st3 ?_
  refine xd X3 B d4_3 rfl ?_
  have f5 := (j0.ext E3)
  refine o_gs X3 B H (o_h hw 28 rfl) e3 f5.2.2.2.2.2.2.2.1 d4_4 fun T6 X6 e6 => ?_
  obtain ⟨T7, h7, X7, e7, E7, A7, D7, Y7, st7⟩ := newO X6 hx hZ hown (o_h hw 31 rfl) (o_w32 hw) (o_w33 hw) e6 (g := (mkF m 7 #[.val (.ref a_1)] [(.ref (o_iq Z)), (.ref b3), (.ref b3)])) rfl (hb hby d4_7) (by decide) (by decide)
  obtain ⟨b7, g7⟩ : ∃ z, z = h3.size := ⟨_, rfl⟩
  rw [← g7] at A7 D7 Y7 st7
  have z8 := E7.1
  have lt_b7 := o_lt A7.lt
  have K7 := K3.ext E7
  have F_value_b7 : o_F8 Z h7 b7 .null := D7 (Or.inl (o_w46 hw)) (ty := (.array .byte)) (by decide)
  have F_coder_b7 : o_F9 Z h7 b7 (.int 0) := D7 (Or.inl (o_w48 hw)) (ty := .byte) (by decide)
  have F_count_b7 : o_F10 Z h7 b7 (.int 0) := D7 (Or.inl (o_w72 hw)) (ty := .int) (by decide)
  have F_maybeLatin1_b7 : o_F11 Z h7 b7 (.int 0) := D7 (Or.inl (o_w269 hw)) (ty := .boolean) (by decide)
  refine o_go st7 ?_
  refine xd X7 B d4_10 rfl ?_
  have f9 := (f5.ext E7)
  refine o_csp (a := b7) X7 B H e7 (o_rm5_s1 (n0 := n0) hw (by omega) b7 (.int 0) (.int 0) (.int 0) .null A7 F_coder_b7 F_count_b7 F_maybeLatin1_b7 F_value_b7 f9 (by omega)) (o_h hw 34 rfl) (o_h hw 35 rfl) (o_w33 hw) (o_h hw 36 rfl) rfl rfl (lenOf o_pd13 rfl) rfl rfl (W := 4) rfl d4_11 (by decide) ?_
  rintro _ T10 L10 X10 ⟨x_11, rfl, N10q, K10q, f12, f13, f14, f15, f16, f17, f18⟩
  have N10 := Fr.app N0 N10q
  have z19 := K10q.1
  have K10 := K7.trans K10q (allS (Or.inr (by omega)) all0)
  have z20 := o_lt f12.lt
  have z21 := o_lt f17.lt
  have hZ22 := hZ
  obtain ⟨b22, c22, T22, h22, k22, X22, e22, E22, hS22, g22, hZ, hown, Li22, Wn22, Hi22, Ex22, Fv22, Fc22, Av22, sp22, st22⟩ := o_ldcC X10 hx hZ hown (o_w49 hw) (o_wS hw) (o_w16 hw) (o_w17 hw) rfl hS0 (by omega) N10 (Or.inl (by rw [hh]; exact Nat.le_of_eq hg_n0.symm)) hp0 (by rw [hh]; exact hold) (bs := o_T62) (z := (62 : Int32)) (by decide +kernel) (fun _ q => o_lb62 q) (by decide +kernel) (by decide) (by decide) (g := (mkF m 14 #[.val (.ref a_1)] [(.ref b7), (.ref (o_iq Z)), (.ref b3), (.ref b3)])) rfl (hb hby d4_14) (n := 248) (by decide +kernel) (by decide) (by decide) (by decide)
  have z23 := E22.1
  rw [hh] at sp22; unfold o_sep at sp22
  have N22 := Fr.nil n0
  have H : o_H _ Z m _ c _ := ⟨hZ, hown, hml⟩
  have Hh24 := o_carry (s := s) hZ22 (o_w121 hw) Wn22 (o_hint (by decide) Hi22) hp1
  have Hh25 := o_carry (s := s) hZ22 (o_w194 hw) Wn22 (o_hint (by decide) Hi22) hp2
  have z26 := o_lt Ex22.lt
  have z27 := o_lt Av22.lt
  have K22 := K10.ext E22
  refine o_go st22 ?_
  have f28 := (f17.ext E22)
  have f29 := (f12.ext E22)
  have f30 := (f13.ext E22)
  have f31 := (f14.ext E22)
  have f32 := (f15.ext E22)
  have f33 := (f16.ext E22)
  have f34 := ((f9.keep K10q (allS (o_exa_plain A7) all0)).ext E22)
  refine o_cvi X22 B H e22 (o_rm7_s1 (n0 := n0) hw (by omega) b7 b22 x_11 c22 (fun _ => 0) (o_ls o_T62) (.int 0) f28 Av22 f29 Ex22 f30 f31 f32 f33 Fc22 Fv22 f34 (o_ne (by omega)) (o_ne (by omega)) (o_ne (by omega)) (by omega)) (o_w50 hw) (o_w52 hw) (o_w33 hw) (o_w54 hw) (o_w51 hw) (o_w53 hw) (o_w53 hw) rfl f29 rfl (lenOf o_pd23 rfl) rfl rfl (W := 3) rfl d4_16 (by decide) ?_
  rintro _ T35 L35 X35 ⟨x_36, rfl, N35q, K35q, f37, f38, f39, f40, f41, f42, f43⟩
  have N35 := Fr.app N22 N35q
  have z44 := K35q.1
  have K35 := K22.trans K35q (allS (Or.inr (by omega)) all0)
  have z45 := o_lt f37.lt
  have z46 := o_lt f42.lt
  refine xa X35 B d4_19 rfl rfl ?_
  have f47 := (((((j4.ext E3).ext E7).keep K10q (ninS (o_ne (by omega)) nin0)).ext E22).keep K35q (ninS (o_ne (by omega)) nin0))
  have f48 := (((((j1.ext E3).ext E7).keep K10q).ext E22).keep K35q)
  have f49 := (((((j3.ext E3).ext E7).keep K10q (ninS (o_ne (by omega)) nin0)).ext E22).keep K35q (ninS (o_ne (by omega)) nin0))
  have f50 := (((((j2.ext E3).ext E7).keep K10q (ninS (o_ne (by omega)) nin0)).ext E22).keep K35q (ninS (o_ne (by omega)) nin0))
  have f51 := (f34.keep K35q (allS (o_exa_plain f29) all0))
  refine o_cvi X35 B H rfl (o_rm7_s7 (n0 := n0) hw (by omega) b7 a_1 x_36 oq (o_cpi (o_ls o_T62) 0 (o_cpi (fun _ => 0) 0 (fun _ => 0) 0 16) 0 62) fq (.int 0) f42 f47 f37 f48 f38 f39 f40 f41 f49 f50 f51 (o_ne (by omega)) (o_ne (by omega)) (o_ne (by omega)) (by omega)) (o_w50 hw) (o_w52 hw) (o_w33 hw) (o_w54 hw) (o_w51 hw) (o_w53 hw) (o_w53 hw) rfl f37 rfl (lenOf o_pd23 rfl) rfl rfl (W := 3) rfl d4_20 (by decide) ?_
  rintro _ T52 L52 X52 ⟨x_53, rfl, N52q, K52q, f54, f55, f56, f57, f58, f59, f60⟩
  have N52 := Fr.app N35 N52q
  have z61 := K52q.1
  have K52 := K35.trans K52q (allS (Or.inr (by omega)) all0)
  have z62 := o_lt f54.lt
  have z63 := o_lt f59.lt
  have hZ64 := hZ
  obtain ⟨b64, c64, T64, h64, k64, X64, e64, E64, hS64, g64, hZ, hown, Li64, Wn64, Hi64, Ex64, Fv64, Fc64, Av64, sp64, st64⟩ := o_ldcC X52 hx hZ hown (o_w121 hw) (o_wS hw) (o_w16 hw) (o_w17 hw) rfl hS22 (by omega) N52 (Or.inl (by rw [hh]; exact Nat.le_of_eq hg_n0.symm)) Hh24 (by rw [hh]; exact hold) (bs := [46]) (z := (1 : Int32)) (by decide +kernel) (fun _ q => o_lb1 q) (by decide +kernel) (by decide) (by decide) (g := (mkF m 23 #[.val (.ref a_1)] [(.ref b7), (.ref (o_iq Z)), (.ref b3), (.ref b3)])) rfl (hb hby d4_23) (n := 4) (by decide +kernel) (by decide) (by decide) (by decide)
  have z65 := E64.1
  rw [hh] at sp64; unfold o_sep at sp64
  have N64 := Fr.nil n0
  have H : o_H _ Z m _ c _ := ⟨hZ, hown, hml⟩
  have Li66 := Li22.stays Wn64
  have Hh67 := o_carry (s := s) hZ64 (o_w194 hw) Wn64 (o_hint (by decide) Hi64) Hh25
  have z68 := o_lt Ex64.lt
  have z69 := o_lt Av64.lt
  have K64 := K52.ext E64
  refine o_go st64 ?_
  have f70 := (f59.ext E64)
  have f71 := (f54.ext E64)
  have f72 := (f55.ext E64)
  have f73 := (f56.ext E64)
  have f74 := (f57.ext E64)
  have f75 := (f58.ext E64)
  have f76 := ((f51.keep K52q (allS (o_exa_plain f37) all0)).ext E64)
  refine o_cvi X64 B H e64 (o_rm7_s8 (n0 := n0) hw (by omega) b7 b64 x_53 c64 (o_cpi fq 0 (o_cpi (o_cpi (o_ls o_T62) 0 (o_cpi (fun _ => 0) 0 (fun _ => 0) 0 16) 0 62) 0 (fun _ => 0) 0 62) 62 3) (o_ls [46]) (.int 0) f70 Av64 f71 Ex64 f72 f73 f74 f75 Fc64 Fv64 f76 (o_ne (by omega)) (o_ne (by omega)) (o_ne (by omega)) (o_ne (by omega)) (o_ne (by omega)) (by omega) (by omega)) (o_w50 hw) (o_w52 hw) (o_w33 hw) (o_w54 hw) (o_w51 hw) (o_w53 hw) (o_w53 hw) rfl f71 rfl (lenOf o_pd23 rfl) rfl rfl (W := 3) rfl d4_25 (by decide) ?_
  rintro _ T77 L77 X77 ⟨rfl, N77q, K77q, f78, f79, f80, f81, f82, f83⟩
  have N77 := Fr.app N64 N77q
  have z84 := K77q.1
  have K77 := K64.trans K77q (allS (Or.inr (by omega)) (allS (Or.inr (by omega)) all0))
  have z85 := o_lt f78.lt
  have z86 := o_lt f79.lt
  have f87 := (f76.keep K77q (allS (o_AV.plain f70) (allS (o_exa_plain f71) all0)))
  refine o_cvi X77 B H rfl (o_rm20_s4 (n0 := n0) hw (by omega) b7 x_53 (o_cpi (o_ls [46]) 0 (o_cpi fq 0 (o_cpi (o_cpi (o_ls o_T62) 0 (o_cpi (fun _ => 0) 0 (fun _ => 0) 0 16) 0 62) 0 (fun _ => 0) 0 62) 62 3) 65 1) f78 f79 f80 f81 f83 f87) (o_h hw 122 rfl) (o_h hw 124 rfl) (o_w33 hw) (o_h hw 126 rfl) (o_h hw 123 rfl) (o_h hw 125 rfl) (o_h hw 125 rfl) rfl f79 rfl (lenOf o_pd30 rfl) rfl rfl (W := 3) rfl d4_28 (by decide) ?_
  rintro _ T88 L88 X88 ⟨x_89, x_90, rfl, N88q, K88q, f91, f92, f93, f94, f95, f96, f97⟩
  have N88 := Fr.app N77 N88q
  have z98 := K88q.1
  have K88 := K77.trans K88q all0
  have z99 := o_lt f91.lt
  have z100 := o_lt f94.lt
  simp only [o_lts, and_true] at f97
  have f101 := ((((((((A3.ext E7).keep K10q).ext E22).keep K35q).keep K52q).ext E64).keep K77q).keep K88q)
  have f102 := ((((((((F_cause_b3.ext E7).keep K10q (ninS (o_ne (by omega)) nin0)).ext E22).keep K35q (ninS (o_ne (by omega)) nin0)).keep K52q (ninS (o_ne (by omega)) nin0)).ext E64).keep K77q (ninS (o_ne (by omega)) (ninS (o_ne (by omega)) nin0))).keep K88q nin0)
  have f103 := ((((((((F_detailMessage_b3.ext E7).keep K10q (ninS (o_ne (by omega)) nin0)).ext E22).keep K35q (ninS (o_ne (by omega)) nin0)).keep K52q (ninS (o_ne (by omega)) nin0)).ext E64).keep K77q (ninS (o_ne (by omega)) (ninS (o_ne (by omega)) nin0))).keep K88q nin0)
  have f104 := ((((((((F_reason_b3.ext E7).keep K10q (ninS (o_ne (by omega)) nin0)).ext E22).keep K35q (ninS (o_ne (by omega)) nin0)).keep K52q (ninS (o_ne (by omega)) nin0)).ext E64).keep K77q (ninS (o_ne (by omega)) (ninS (o_ne (by omega)) nin0))).keep K88q nin0)
  have f105 := ((((((((F_stackTrace_b3.ext E7).keep K10q (ninS (o_ne (by omega)) nin0)).ext E22).keep K35q (ninS (o_ne (by omega)) nin0)).keep K52q (ninS (o_ne (by omega)) nin0)).ext E64).keep K77q (ninS (o_ne (by omega)) (ninS (o_ne (by omega)) nin0))).keep K88q nin0)
  have f106 := ((((((((F_suppressedExceptions_b3.ext E7).keep K10q (ninS (o_ne (by omega)) nin0)).ext E22).keep K35q (ninS (o_ne (by omega)) nin0)).keep K52q (ninS (o_ne (by omega)) nin0)).ext E64).keep K77q (ninS (o_ne (by omega)) (ninS (o_ne (by omega)) nin0))).keep K88q nin0)
  have f107 := (f87.keep K88q all0)
  refine o_csp (a := b3) X88 B H rfl (o_rm30_s1 (n0 := n0) hw (by omega) b3 (o_iq Z) x_89 .null .null .null .null .null f101 f102 f103 f104 f105 f106 f107 (by omega)) (o_h hw 161 rfl) (o_h hw 162 rfl) (o_w24 hw) (o_h hw 163 rfl) rfl rfl (lenOf o_pd32 rfl) rfl rfl (W := 1) rfl d4_31 (by decide) ?_
  rintro _ T108 L108 X108 ⟨rfl, N108q, K108q, f109, f110, f111, f112, f113, f114⟩
  have N108 := Fr.app N88 N108q
  have z115 := K108q.1
  have K108 := K88.trans K108q (allS (Or.inr (by omega)) all0)
  have z116 := o_lt f109.lt
  obtain ⟨fs, hr, hrun, hended, hRW⟩ := X108.leaveW hS64 (by omega) (v := some (.ref b3)) (fun h => by rw [Bd.returns] at h; cases h)
  refine ⟨_, _, retOut X108 hx Bd.returns rfl (Or.inr (Or.inr (Or.inr (Or.inr ⟨rfl, rfl, rfl⟩)))) (hb hby d4_34) hr, hrun, hended, _, _, rfl, ?_, o_monoW hRW (by decide) (by decide)⟩
  refine ⟨?_, o_carryH hZ (o_w194 hw) X108.warmed Hh67⟩
  have f118 := (f91.keep K108q)
  have f119 := (f92.keep K108q (ninS (o_ne (by omega)) nin0))
  have f120 := (f93.keep K108q (ninS (o_ne (by omega)) nin0))
  have f121 := (f94.keep K108q (ninS (o_ne (by omega)) nin0))
  exact ⟨b3, x_89, x_90, rfl, N108, K108, f109, f110, f111, f112, f113, f114, f118, f119, f120, f121, (by omega), (by omega), (by omega), (by simp only [o_lts, and_true]; omega)⟩
theorem o_rm9_s6 (hw : o_T Z a0) (Z0 : n0 ≤ h0.size) (a_1 ob0 : Addr) (fa_ob0 : Nat → Int32) (j0 : o_AV Z h0 ob0 .byte (6 : Int32) (o_by fa_ob0)) (j1 : o_E0 Z h0 a_1) (j2 : o_F1 Z h0 a_1 (.int 1)) (j3 : o_F2 Z h0 a_1 (.ref ob0)) (j4 : o_G Z h0) :
    M9' l Z (o_rm 1 0 0 13) #[(.ref a_1)] h0 (fun v h L => v = some (.int 3) ∧ Fr n0 L ∧ h = h0) := by
  refine o_start (plainFor_of_name o_pn2) (L0 := #[.val (.ref a_1)]) (fun _ => rfl) fun p e s m below meth c s₁ hx hby hml hown hnm hret hZ X0 e0 B H => ?_
  have N0 := Fr.nil n0
  have z0 : n0 ≤ h0.size := Z0
  have z1 := o_lt j0.lt
  have z2 := o_lt j1.lt
  refine xa X0 B d9_0 rfl rfl ?_
  refine o_gf X0 B H (o_w20 hw) e0 j3 d9_1 fun T3 X3 e3 => ?_
  refine xl X3 B H e3 j0 d9_4 ?_
  refine xa X3 B d9_5 rfl rfl ?_
  refine o_cvi X3 B H e3 (o_rm10_s2 (n0 := n0) hw (by omega) a_1  j2 j4) (o_w65 hw) (o_w67 hw) (o_w2 hw) (o_w69 hw) (o_w66 hw) (o_w68 hw) (o_w68 hw) rfl j1 rfl (lenOf o_pd14 rfl) rfl rfl (W := 1) rfl d9_6 (by decide) ?_
  rintro _ T4 L4 X4 ⟨rfl, N4q, e4⟩
  have N4 := Fr.app N0 N4q
  refine xshr X4 B d9_9 (3) rfl ?_
  exact o_retI X4 B hret (Or.inl rfl) rfl d9_10 (by decide) e4 ⟨rfl, N4, rfl⟩
theorem o_rm19_s9 (hw : o_T Z a0) (Z0 : n0 ≤ h0.size) (a_1 a_2 ob0 : Addr) (fa_a_2 fa_ob0 : Nat → Int32) (j0 : o_AV Z h0 a_2 .byte (252 : Int32) (o_by fa_a_2)) (j1 : o_AV Z h0 ob0 .byte (6 : Int32) (o_by fa_ob0)) (j2 : o_E0 Z h0 a_1) (j3 : o_F1 Z h0 a_1 (.int 1)) (j4 : o_F2 Z h0 a_1 (.ref ob0)) (j5 : o_G Z h0) (hd_a_1_a_2 : o_df a_1 a_2) (hd_a_2_ob0 : o_df a_2 ob0) (gw_a_2 : n0 ≤ a_2) :
    M19' l Z (o_rm 1 0 0 40) #[(.ref a_1), (.ref a_2), (.int 62), (.int 1)] h0 (fun v h L => v = none ∧ Fr n0 L ∧ Keep h0 h [a_2] ∧ o_AV Z h a_2 .byte (252 : Int32) (o_by (o_cpi fa_ob0 0 fa_a_2 124 6))) := by
  refine o_start (plainFor_of_name o_pn2) (L0 := #[.val (.ref a_1), .val (.ref a_2), .val (.int 62), .val (.int 1)]) (fun _ => rfl) fun p e s m below meth c s₁ hx hby hml hown hnm hret hZ X0 e0 B H => ?_
  have N0 := Fr.nil n0
  have z0 : n0 ≤ h0.size := Z0
  have z1 := o_lt j0.lt
  have z2 := o_lt j1.lt
  have z3 := o_lt j2.lt
  have K0 : Keep h0 h0 [a_2] := Keep.refl h0 _
  refine xa X0 B d19_0 rfl rfl ?_
  refine o_cvi X0 B H e0 (o_rm10_s2 (n0 := n0) hw (by omega) a_1  j3 j5) (o_w65 hw) (o_w67 hw) (o_w2 hw) (o_w69 hw) (o_w66 hw) (o_w68 hw) (o_w68 hw) rfl j2 rfl (lenOf o_pd14 rfl) rfl rfl (W := 0) rfl d19_1 (by decide) ?_
  rintro _ T4 L4 X4 ⟨rfl, N4q, e4⟩
  have N4 := Fr.app N0 N4q
  refine xi X4 B d19_4 rfl ?_
  have hc5 : (1 : Int32) = (1 : Int32) := by decide
  refine xm X4 B d19_5 (XT.ii_ne_f hc5) ?_
  refine xa X4 B d19_8 rfl rfl ?_
  refine o_gf X4 B H (o_w20 hw) e4 j4 d19_9 fun T6 X6 e6 => ?_
  refine xc X6 B d19_12 0 rfl ?_
  refine xa X6 B d19_13 rfl rfl ?_
  refine xi X6 B d19_14 rfl ?_
  refine xi X6 B d19_15 rfl ?_
  refine xshl X6 B d19_16 (124) rfl ?_
  refine xa X6 B d19_17 rfl rfl ?_
  refine o_gf X6 B H (o_w20 hw) e6 j4 d19_18 fun T7 X7 e7 => ?_
  refine xl X7 B H e7 j1 d19_21 ?_
  obtain ⟨T8, h8, L8, X8, e8, N8, Kq8, V8, st8⟩ := o_cpB X7 hx hZ hown (o_h hw 120 rfl) (o_w103 hw) (o_w101 hw) (o_w102 hw) e7 j1 j0 (sp' := 0) (dp' := 124) (nn' := 6) (by decide) (by decide) (by decide) (by decide) (by decide) (by decide) (by decide) (by decide) N4 (by omega) (g := (mkF m 22 #[.val (.ref a_1), .val (.ref a_2), .val (.int 62), .val (.int 1)] [(.int 6), (.int 124), (.ref a_2), (.int 0), (.ref ob0)])) rfl (by rw [hml]; rfl) rfl (hb hby d19_22) (by decide) (W := 0) (by show 2 * 0 + _ ≤ _; exact Nat.le_of_eq rfl) (by decide)
  have z9 := Kq8.1
  have K8 := K0.trans Kq8 (allS (Or.inl o_m0) all0)
  refine o_go st8 ?_
  refine xg X8 B 25 43 rfl d19_25 (by decide) ?_
  exact o_retV X8 B hret d19_43 (by decide) e8 ⟨rfl, N8, K8, V8⟩
theorem o_rm17_s9 (hw : o_T Z a0) (Z0 : n0 ≤ h0.size) (a_1 a_3 ob0 ob1 : Addr) (fa_ob0 fa_ob1 : Nat → Int32) (u_0 : Value) (j0 : o_AV Z h0 ob0 .byte (126 : Int32) (o_by fa_ob0)) (j1 : o_AV Z h0 ob1 .byte (6 : Int32) (o_by fa_ob1)) (j2 : o_E12 Z h0 a_1) (j3 : o_E0 Z h0 a_3) (j4 : o_F9 Z h0 a_1 (.int 0)) (j5 : o_F10 Z h0 a_1 (.int 62)) (j6 : o_F11 Z h0 a_1 u_0) (j7 : o_F8 Z h0 a_1 (.ref ob0)) (j8 : o_F1 Z h0 a_3 (.int 1)) (j9 : o_F2 Z h0 a_3 (.ref ob1)) (j10 : o_G Z h0) (hd_a_1_a_3 : o_df a_1 a_3) (hd_a_1_ob0 : o_df a_1 ob0) (hd_a_1_ob1 : o_df a_1 ob1) (gw_a_1 : n0 ≤ a_1) :
    M17' l Z (o_rm 7 1 252 102) #[(.ref a_1), (.int 62), (.ref a_3)] h0 (fun v h L => ∃ (x_0 : Addr), v = none ∧ Fr n0 L ∧ Keep h0 h [a_1] ∧ o_E12 Z h a_1 ∧ o_F9 Z h a_1 (.int 1) ∧ o_F10 Z h a_1 (.int 62) ∧ o_F11 Z h a_1 u_0 ∧ o_F8 Z h a_1 (.ref x_0) ∧ o_AV Z h x_0 .byte (252 : Int32) (o_by (o_cpi fa_ob1 0 (o_inf fa_ob0 0 (fun _ => 0) 62) 124 6)) ∧ (h0.size ≤ x_0)) := by
  refine o_start (plainFor_of_name o_pn3) (L0 := #[.val (.ref a_1), .val (.int 62), .val (.ref a_3)]) (fun _ => rfl) fun p e s m below meth c s₁ hx hby hml hown hnm hret hZ X0 e0 B H => ?_
  have N0 := Fr.nil n0
  have z0 : n0 ≤ h0.size := Z0
  have z1 := o_lt j0.lt
  have z2 := o_lt j1.lt
  have z3 := o_lt j2.lt
  have z4 := o_lt j3.lt
  have K0 : Keep h0 h0 [a_1] := Keep.refl h0 _
  refine xa X0 B d17_0 rfl rfl ?_
  refine xa X0 B d17_1 rfl rfl ?_
  refine o_cpr X0 B H e0 (o_rm18_s2 (n0 := n0) hw (by omega) a_1 a_3 ob0 fa_ob0 u_0 j0 j2 j3 j4 j5 j6 j7 j8 j10 hd_a_1_a_3 hd_a_1_ob0 (by omega)) (o_h hw 109 rfl) (o_w110 hw) (o_w41 hw) (o_h hw 113 rfl) (o_h hw 112 rfl) (o_w111 hw) j2 rfl (lenOf o_pd19 rfl) rfl rfl (W := 0) rfl d17_2 (by decide) ?_
  rintro _ T5 L5 X5 ⟨x_6, rfl, N5q, K5q, f7, f8, f9, f10, f11, f12, f13⟩
  have N5 := Fr.app N0 N5q
  have z14 := K5q.1
  have K5 := K0.trans K5q (allS (Or.inl o_m0) all0)
  have z15 := o_lt f7.lt
  have z16 := o_lt f12.lt
  refine xa X5 B d17_5 rfl rfl ?_
  refine xa X5 B d17_6 rfl rfl ?_
  refine o_gf X5 B H (o_w45 hw) rfl f11 d17_7 fun T17 X17 e17 => ?_
  refine xi X17 B d17_10 rfl ?_
  refine xa X17 B d17_11 rfl rfl ?_
  refine o_gf X17 B H (o_w47 hw) e17 f8 d17_12 fun T18 X18 e18 => ?_
  have f19 := (j1.keep K5q (ninS hd_a_1_ob1.sym nin0))
  have f20 := (j3.keep K5q)
  have f21 := (j8.keep K5q (ninS hd_a_1_a_3.sym nin0))
  have f22 := (j9.keep K5q (ninS hd_a_1_a_3.sym nin0))
  have f23 := (j10.keep K5q (allS (o_exa_plain j2) all0))
  refine o_cvi X18 B H e18 (o_rm19_s9 (n0 := n0) hw (by omega) a_3 x_6 ob1 (o_inf fa_ob0 0 (fun _ => 0) 62) fa_ob1 f12 f19 f20 f21 f22 f23 (o_ne (by omega)) (o_ne (by omega)) (by omega)) (o_w115 hw) (o_w117 hw) (o_w2 hw) (o_h hw 119 rfl) (o_w116 hw) (o_w118 hw) (o_w118 hw) rfl f20 rfl (lenOf o_pd20 rfl) rfl rfl (W := 0) rfl d17_15 (by decide) ?_
  rintro _ T24 L24 X24 ⟨rfl, N24q, K24q, f25⟩
  have N24 := Fr.app N5 N24q
  have z26 := K24q.1
  have K24 := K5.trans K24q (allS (Or.inr (by omega)) all0)
  have z27 := o_lt f25.lt
  have f29 := (f7.keep K24q)
  have f30 := (f8.keep K24q (ninS (o_ne (by omega)) nin0))
  have f31 := (f9.keep K24q (ninS (o_ne (by omega)) nin0))
  have f32 := (f10.keep K24q (ninS (o_ne (by omega)) nin0))
  have f33 := (f11.keep K24q (ninS (o_ne (by omega)) nin0))
  exact o_retV X24 B hret d17_18 (by decide) rfl ⟨x_6, rfl, N24, K24, f29, f30, f31, f32, f33, f25, (by omega)⟩
theorem o_rm8_s9 (hw : o_T Z a0) (Z0 : n0 ≤ h0.size) (a_1 a_2 ob0 ob1 : Addr) (fa_ob0 fa_ob1 : Nat → Int32) (u_0 : Value) (j0 : o_AV Z h0 ob0 .byte (62 : Int32) (o_by fa_ob0)) (j1 : o_AV Z h0 ob1 .byte (6 : Int32) (o_by fa_ob1)) (j2 : o_E12 Z h0 a_1) (j3 : o_E0 Z h0 a_2) (j4 : o_F9 Z h0 a_1 (.int 0)) (j5 : o_F10 Z h0 a_1 (.int 62)) (j6 : o_F11 Z h0 a_1 u_0) (j7 : o_F8 Z h0 a_1 (.ref ob0)) (j8 : o_F1 Z h0 a_2 (.int 1)) (j9 : o_F2 Z h0 a_2 (.ref ob1)) (j10 : o_G Z h0) (hd_a_1_a_2 : o_df a_1 a_2) (hd_a_1_ob0 : o_df a_1 ob0) (hd_a_1_ob1 : o_df a_1 ob1) (gw_a_1 : n0 ≤ a_1) :
    M8' l Z (o_rm 8 2 378 116) #[(.ref a_1), (.ref a_2)] h0 (fun v h L => ∃ (x_0 : Addr), v = some (.ref a_1) ∧ Fr n0 L ∧ Keep h0 h [a_1] ∧ o_E12 Z h a_1 ∧ o_F9 Z h a_1 (.int 1) ∧ o_F10 Z h a_1 (.int 65) ∧ o_F11 Z h a_1 u_0 ∧ o_F8 Z h a_1 (.ref x_0) ∧ o_AV Z h x_0 .byte (252 : Int32) (o_by (o_cpi fa_ob1 0 (o_inf (o_cpi fa_ob0 0 (fun _ => 0) 0 62) 0 (fun _ => 0) 62) 124 6)) ∧ (h0.size ≤ x_0)) := by
  refine o_start (plainFor_of_name o_pn3) (L0 := #[.val (.ref a_1), .val (.ref a_2), .unset]) (fun _ => rfl) fun p e s m below meth c s₁ hx hby hml hown hnm hret hZ X0 e0 B H => ?_
  have N0 := Fr.nil n0
  have z0 : n0 ≤ h0.size := Z0
  have z1 := o_lt j0.lt
  have z2 := o_lt j1.lt
  have z3 := o_lt j2.lt
  have z4 := o_lt j3.lt
  have K0 : Keep h0 h0 [a_1] := Keep.refl h0 _
  refine xa X0 B d8_0 rfl rfl ?_
  refine xN X0 B 1 9 rfl d8_1 (by decide) ?_
  refine xa X0 B d8_9 rfl rfl ?_
  refine o_cvi X0 B H e0 (o_rm9_s6 (n0 := n0) hw (by omega) a_2 ob1 fa_ob1 j1 j3 j8 j9 j10) (o_w60 hw) (o_w62 hw) (o_w2 hw) (o_h hw 64 rfl) (o_w61 hw) (o_w63 hw) (o_w63 hw) rfl j3 rfl (lenOf o_pd15 rfl) rfl rfl (W := 0) rfl d8_10 (by decide) ?_
  rintro _ T5 L5 X5 ⟨rfl, N5q, e5⟩
  have N5 := Fr.app N0 N5q
  refine xs X5 B d8_13 (l' := #[.val (.ref a_1), .val (.ref a_2), .val (.int 3)]) rfl ?_
  refine xa X5 B d8_14 rfl rfl ?_
  refine xa X5 B d8_15 rfl rfl ?_
  refine o_gf X5 B H (o_w71 hw) e5 j5 d8_16 fun T6 X6 e6 => ?_
  refine xi X6 B d8_19 rfl ?_
  refine xadd X6 B d8_20 (65) rfl ?_
  refine o_cpr X6 B H e6 (o_rm11_s6 (n0 := n0) hw (by omega) a_1 ob0 fa_ob0 (.int 62) u_0 j0 j2 j4 j5 j6 j7 hd_a_1_ob0 (by omega)) (o_h hw 73 rfl) (o_w74 hw) (o_w41 hw) (o_h hw 77 rfl) (o_w76 hw) (o_w75 hw) j2 rfl (lenOf o_pd12 rfl) rfl rfl (W := 0) rfl d8_21 (by decide) ?_
  rintro _ T7 L7 X7 ⟨x_8, rfl, N7q, K7q, f9, f10, f11, f12, f13, f14, f15⟩
  have N7 := Fr.app N5 N7q
  have z16 := K7q.1
  have K7 := K0.trans K7q (allS (Or.inl o_m0) all0)
  have z17 := o_lt f9.lt
  have z18 := o_lt f14.lt
  refine xa X7 B d8_24 rfl rfl ?_
  refine xa X7 B d8_25 rfl rfl ?_
  refine o_gf X7 B H (o_w71 hw) rfl f11 d8_26 fun T19 X19 e19 => ?_
  refine xa X19 B d8_29 rfl rfl ?_
  have f20 := (j1.keep K7q (ninS hd_a_1_ob1.sym nin0))
  have f21 := (j3.keep K7q)
  have f22 := (j8.keep K7q (ninS hd_a_1_a_2.sym nin0))
  have f23 := (j9.keep K7q (ninS hd_a_1_a_2.sym nin0))
  have f24 := (j10.keep K7q (allS (o_exa_plain j2) all0))
  refine o_cpr X19 B H e19 (o_rm17_s9 (n0 := n0) hw (by omega) a_1 a_2 x_8 ob1 (o_cpi fa_ob0 0 (fun _ => 0) 0 62) fa_ob1 u_0 f14 f20 f9 f21 f10 f11 f12 f13 f22 f23 f24 hd_a_1_a_2 (o_ne (by omega)) hd_a_1_ob1 (by omega)) (o_h hw 104 rfl) (o_w105 hw) (o_w41 hw) (o_h hw 108 rfl) (o_h hw 107 rfl) (o_w106 hw) f9 rfl (lenOf o_pd21 rfl) rfl rfl (W := 0) rfl d8_30 (by decide) ?_
  rintro _ T25 L25 X25 ⟨x_26, rfl, N25q, K25q, f27, f28, f29, f30, f31, f32, f33⟩
  have N25 := Fr.app N7 N25q
  have z34 := K25q.1
  have K25 := K7.trans K25q (allS (Or.inl o_m0) all0)
  have z35 := o_lt f27.lt
  have z36 := o_lt f32.lt
  refine xa X25 B d8_33 rfl rfl ?_
  refine xd X25 B d8_34 rfl ?_
  refine o_gf X25 B H (o_w71 hw) rfl f29 d8_35 fun T37 X37 e37 => ?_
  refine xi X37 B d8_38 rfl ?_
  refine xadd X37 B d8_39 (65) rfl ?_
  obtain ⟨T38, h38, X38, e38, W38, st38⟩ := putF X37 hx hZ hown (host := "") (Or.inl (o_w71 hw)) Via.refl e37 f29 f27 (Or.inl (o_w72 hw)) (o_w32 hw) (ty := .int) (by decide) rfl rfl (g := (mkF m 40 #[.val (.ref a_1), .val (.ref a_2), .val (.int 3)] [(.int 65), (.ref a_1)])) rfl rfl (hb hby d8_40)
  have z39 := W38.size
  have K38 := K25.wr W38 (Or.inl o_m0)
  have N38 := Fr.snoc X38 N25 (by omega : n0 ≤ a_1)
  have Fw38 : o_F10 Z h38 a_1 (.int 65) := Fld.same W38 f29
  refine o_go st38 ?_
  refine xa X38 B d8_43 rfl rfl ?_
  have f41 := (f27.wr W38)
  have f42 := (f28.other W38 (Or.inr (slot_ne (Or.inl (o_w48 hw)) (Or.inl (o_w72 hw)) (by decide) (t := .byte) (t' := .int) (by decide) (by decide))))
  have f43 := (f30.other W38 (Or.inr (slot_ne (Or.inl (o_w269 hw)) (Or.inl (o_w72 hw)) (by decide) (t := .boolean) (t' := .int) (by decide) (by decide))))
  have f44 := (f31.other W38 (Or.inr (slot_ne (Or.inl (o_w46 hw)) (Or.inl (o_w72 hw)) (by decide) (t := (.array .byte)) (t' := .int) (by decide) (by decide))))
  have f45 := (f32.other W38 (o_ne (by omega)))
  exact o_retA X38 B hret rfl rfl rfl d8_44 (by decide) e38 ⟨x_26, rfl, N38, K38, f41, f42, Fw38, f43, f44, f45, (by omega)⟩
theorem o_rm7_s9 (hw : o_T Z a0) (Z0 : n0 ≤ h0.size) (a_1 a_2 ob0 ob1 : Addr) (fa_ob0 fa_ob1 : Nat → Int32) (u_0 : Value) (j0 : o_AV Z h0 ob0 .byte (62 : Int32) (o_by fa_ob0)) (j1 : o_AV Z h0 ob1 .byte (6 : Int32) (o_by fa_ob1)) (j2 : o_E12 Z h0 a_1) (j3 : o_E0 Z h0 a_2) (j4 : o_F9 Z h0 a_1 (.int 0)) (j5 : o_F10 Z h0 a_1 (.int 62)) (j6 : o_F11 Z h0 a_1 u_0) (j7 : o_F8 Z h0 a_1 (.ref ob0)) (j8 : o_F1 Z h0 a_2 (.int 1)) (j9 : o_F2 Z h0 a_2 (.ref ob1)) (j10 : o_G Z h0) (hd_a_1_a_2 : o_df a_1 a_2) (hd_a_1_ob0 : o_df a_1 ob0) (hd_a_1_ob1 : o_df a_1 ob1) (gw_a_1 : n0 ≤ a_1) :
    M7' l Z (o_rm 9 2 378 130) #[(.ref a_1), (.ref a_2)] h0 (fun v h L => ∃ (x_0 : Addr), v = some (.ref a_1) ∧ Fr n0 L ∧ Keep h0 h [a_1] ∧ o_E12 Z h a_1 ∧ o_F9 Z h a_1 (.int 1) ∧ o_F10 Z h a_1 (.int 65) ∧ o_F11 Z h a_1 u_0 ∧ o_F8 Z h a_1 (.ref x_0) ∧ o_AV Z h x_0 .byte (252 : Int32) (o_by (o_cpi fa_ob1 0 (o_inf (o_cpi fa_ob0 0 (fun _ => 0) 0 62) 0 (fun _ => 0) 62) 124 6)) ∧ (h0.size ≤ x_0)) := by
  refine o_start (plainFor_of_name o_pn4) (L0 := #[.val (.ref a_1), .val (.ref a_2)]) (fun _ => rfl) fun p e s m below meth c s₁ hx hby hml hown hnm hret hZ X0 e0 B H => ?_
  have N0 := Fr.nil n0
  have z0 : n0 ≤ h0.size := Z0
  have z1 := o_lt j0.lt
  have z2 := o_lt j1.lt
  have z3 := o_lt j2.lt
  have z4 := o_lt j3.lt
  have K0 : Keep h0 h0 [a_1] := Keep.refl h0 _
  refine xa X0 B d7_0 rfl rfl ?_
  refine xa X0 B d7_1 rfl rfl ?_
  refine o_csu X0 B H e0 (o_rm8_s9 (n0 := n0) hw (by omega) a_1 a_2 ob0 ob1 fa_ob0 fa_ob1 u_0 j0 j1 j2 j3 j4 j5 j6 j7 j8 j9 j10 hd_a_1_a_2 hd_a_1_ob0 hd_a_1_ob1 (by omega)) (o_h hw 55 rfl) (o_h hw 56 rfl) (o_w41 hw) (o_h hw 59 rfl) (o_w58 hw) (o_w76 hw) rfl (o_w57 hw) j2 (by decide) rfl (lenOf o_pd22 rfl) rfl rfl (W := 0) rfl d7_2 (by decide) ?_
  rintro _ T5 L5 X5 ⟨x_6, rfl, N5q, K5q, f7, f8, f9, f10, f11, f12, f13⟩
  have N5 := Fr.app N0 N5q
  have z14 := K5q.1
  have K5 := K0.trans K5q (allS (Or.inl o_m0) all0)
  have z15 := o_lt f7.lt
  have z16 := o_lt f12.lt
  refine xp X5 B d7_5 rfl ?_
  refine xa X5 B d7_6 rfl rfl ?_
  exact o_retA X5 B hret rfl rfl rfl d7_7 (by decide) rfl ⟨x_6, rfl, N5, K5, f7, f8, f9, f10, f11, f12, (by omega)⟩
theorem o_rm11_s8 (hw : o_T Z a0) (Z0 : n0 ≤ h0.size) (a_1 ob0 : Addr) (fa_ob0 : Nat → Int32) (j0 : o_AV Z h0 ob0 .byte (252 : Int32) (o_by fa_ob0)) (j1 : o_F9 Z h0 a_1 (.int 1)) (j2 : o_F8 Z h0 a_1 (.ref ob0)) :
    M11' l Z (o_rm 0 0 0 0) #[(.ref a_1), (.int 66)] h0 (fun v h L => v = none ∧ Fr n0 L ∧ h = h0) := by
  refine o_start (plainFor_of_name o_pn3) (L0 := #[.val (.ref a_1), .val (.int 66), .unset]) (fun _ => rfl) fun p e s m below meth c s₁ hx hby hml hown hnm hret hZ X0 e0 B H => ?_
  have N0 := Fr.nil n0
  have z0 : n0 ≤ h0.size := Z0
  have z1 := o_lt j0.lt
  have z2 := o_lt j1.lt
  refine xa X0 B d11_0 rfl rfl ?_
  refine o_gf X0 B H (o_w45 hw) e0 j2 d11_1 fun T3 X3 e3 => ?_
  refine xl X3 B H e3 j0 d11_4 ?_
  refine xa X3 B d11_5 rfl rfl ?_
  refine o_gf X3 B H (o_w47 hw) e3 j1 d11_6 fun T4 X4 e4 => ?_
  refine xshr X4 B d11_9 (126) rfl ?_
  refine xs X4 B d11_10 (l' := #[.val (.ref a_1), .val (.int 66), .val (.int 126)]) rfl ?_
  refine xi X4 B d11_11 rfl ?_
  refine xi X4 B d11_12 rfl ?_
  refine xsub X4 B d11_13 (-60) rfl ?_
  have hc5 : ¬ (0 < (-60 : Int32)) := by decide
  refine xy X4 B 14 38 rfl d11_14 (XT.i0_le_t hc5) (by decide) ?_
  exact o_retV X4 B hret d11_38 (by decide) e4 ⟨rfl, N0, rfl⟩
theorem o_rm51_s3 (hw : o_T Z a0) (Z0 : n0 ≤ h0.size) (a_4 : Value) (hgcat_a_4 : a_4.category = 1) :
    M51' l Z (o_rm 0 0 0 0) #[(.int 65), (.int 1), (.int 126), a_4] h0 (fun v h L => v = some (.int 65) ∧ Fr n0 L ∧ h = h0) := by
  refine o_start (plainFor_of_name o_pn10) (L0 := #[.val (.int 65), .val (.int 1), .val (.int 126), .val a_4]) (fun _ => by simp [entryFrame, mkF, argsToLocals, hgcat_a_4, (show ∀ x, (Value.int x).category = 1 from fun _ => rfl)]) fun p e s m below meth c s₁ hx hby hml hown hnm hret hZ X0 e0 B H => ?_
  have N0 := Fr.nil n0
  have z0 : n0 ≤ h0.size := Z0
  refine xi X0 B d51_0 rfl ?_
  refine xi X0 B d51_1 rfl ?_
  refine o_go (fun _ k => XS.ior X0.here hx rfl (hb hby d51_2) rfl k) ?_
  show o_Go _ _ _ _ s₁ (mkF m 3 #[.val (.int 65), .val (.int 1), .val (.int 126), .val a_4] [(.int 127)])
  refine xi X0 B d51_3 rfl ?_
  refine o_go (fun _ k => XS.ior X0.here hx rfl (hb hby d51_4) rfl k) ?_
  show o_Go _ _ _ _ s₁ (mkF m 5 #[.val (.int 65), .val (.int 1), .val (.int 126), .val a_4] [(.int 127)])
  have hc1 : ¬ ((127 : Int32) < 0) := by decide
  refine xn X0 B d51_5 (XT.i0_lt_f hc1) ?_
  refine xi X0 B d51_8 rfl ?_
  refine xi X0 B d51_9 rfl ?_
  refine xi X0 B d51_10 rfl ?_
  refine xsub X0 B d51_11 (61) rfl ?_
  have hc2 : ¬ ((61 : Int32) < (1 : Int32)) := by decide
  refine xM X0 B 12 23 rfl d51_12 (XT.ii_le_t hc2) (by decide) ?_
  refine xi X0 B d51_23 rfl ?_
  exact o_retI X0 B hret (Or.inl rfl) rfl d51_24 (by decide) e0 ⟨rfl, N0, rfl⟩
theorem o_rm50_s3 (hw : o_T Z a0) (Z0 : n0 ≤ h0.size) (j0 : o_G Z h0) :
    M50' l Z (o_rm 1 0 0 15) #[(.int 65), (.int 1), (.int 126)] h0 (fun v h L => v = some (.int 65) ∧ Fr n0 L ∧ h = h0) := by
  refine o_start (plainFor_of_name o_pn2) (L0 := #[.val (.int 65), .val (.int 1), .val (.int 126)]) (fun _ => rfl) fun p e s m below meth c s₁ hx hby hml hown hnm hret hZ X0 e0 B H => ?_
  have N0 := Fr.nil n0
  have z0 : n0 ≤ h0.size := Z0
  refine xi X0 B d50_0 rfl ?_
  refine xi X0 B d50_1 rfl ?_
  refine xi X0 B d50_2 rfl ?_
  refine o_gs X0 B H (o_h hw 262 rfl) e0 j0.2.2.2.2.1 d50_3 fun T1 X1 e1 => ?_
  refine o_cst X1 B H e1 (o_rm51_s3 (n0 := n0) hw (by omega) (o_fm Z)  (o_hfm j0)) (o_h hw 264 rfl) (o_h hw 265 rfl) (o_h hw 263 rfl) (o_h hw 266 rfl) rfl (lenOf o_pd34 rfl) rfl rfl (W := 0) rfl d50_6 (by decide) ?_
  rintro _ T2 L2 X2 ⟨rfl, N2q, e2⟩
  have N2 := Fr.app N0 N2q
  exact o_retI X2 B hret (Or.inl rfl) rfl d50_9 (by decide) e2 ⟨rfl, N2, rfl⟩
theorem o_rm48_s3 (hw : o_T Z a0) (Z0 : n0 ≤ h0.size) (a_3 : Addr) (fa_a_3 : Nat → Int32) (j0 : o_AV Z h0 a_3 .byte (252 : Int32) (o_by fa_a_3)) (j1 : o_G Z h0) :
    M48' l Z (o_rm 2 0 0 29) #[(.int 65), (.int 1), (.ref a_3)] h0 (fun v h L => v = none ∧ Fr n0 L ∧ h = h0) := by
  refine o_start (plainFor_of_name o_pn0) (L0 := #[.val (.int 65), .val (.int 1), .val (.ref a_3)]) (fun _ => rfl) fun p e s m below meth c s₁ hx hby hml hown hnm hret hZ X0 e0 B H => ?_
  have N0 := Fr.nil n0
  have z0 : n0 ≤ h0.size := Z0
  have z1 := o_lt j0.lt
  refine xi X0 B d48_0 rfl ?_
  refine xi X0 B d48_1 rfl ?_
  refine xa X0 B d48_2 rfl rfl ?_
  refine o_cst X0 B H e0 (o_rm49_s1 (n0 := n0) hw (by omega) a_3 fa_a_3 j0) (o_h hw 256 rfl) (o_h hw 257 rfl) (o_w213 hw) (o_h hw 258 rfl) rfl (lenOf o_pd33 rfl) rfl rfl (W := 2) rfl d48_3 (by decide) ?_
  rintro _ T2 L2 X2 ⟨rfl, N2q, e2⟩
  have N2 := Fr.app N0 N2q
  refine o_cst X2 B H e2 (o_rm50_s3 (n0 := n0) hw (by omega)   j1) (o_h hw 259 rfl) (o_h hw 260 rfl) (o_w2 hw) (o_h hw 261 rfl) rfl (lenOf o_pd17 rfl) rfl rfl (W := 0) rfl d48_6 (by decide) ?_
  rintro _ T3 L3 X3 ⟨rfl, N3q, e3⟩
  have N3 := Fr.app N2 N3q
  refine xp X3 B d48_9 rfl ?_
  exact o_retV X3 B hret d48_10 (by decide) e3 ⟨rfl, N3, rfl⟩
theorem o_rm47_s3 (hw : o_T Z a0) (Z0 : n0 ≤ h0.size) (a_1 a_3 : Addr) (fa_a_1 fa_a_3 : Nat → Int32) (j0 : o_AV Z h0 a_1 .byte (1 : Int32) (o_by fa_a_1)) (j1 : o_AV Z h0 a_3 .byte (252 : Int32) (o_by fa_a_3)) (j2 : o_G Z h0) (hd_a_1_a_3 : o_df a_1 a_3) (gw_a_3 : n0 ≤ a_3) :
    M47' l Z (o_rm 3 0 0 43) #[(.ref a_1), (.int 0), (.ref a_3), (.int 65), (.int 1)] h0 (fun v h L => v = none ∧ Fr n0 L ∧ Keep h0 h [a_3] ∧ o_AV Z h a_3 .byte (252 : Int32) (o_by (o_inf fa_a_1 65 fa_a_3 1))) := by
  refine o_start (plainFor_of_name o_pn0) (L0 := #[.val (.ref a_1), .val (.int 0), .val (.ref a_3), .val (.int 65), .val (.int 1), .unset]) (fun _ => rfl) fun p e s m below meth c s₁ hx hby hml hown hnm hret hZ X0 e0 B H => ?_
  have N0 := Fr.nil n0
  have z0 : n0 ≤ h0.size := Z0
  have z1 := o_lt j0.lt
  have z2 := o_lt j1.lt
  have K0 : Keep h0 h0 [a_3] := Keep.refl h0 _
  refine xi X0 B d47_0 rfl ?_
  refine xI X0 B d47_1 rfl ?_
  refine xa X0 B d47_3 rfl rfl ?_
  refine o_cst X0 B H e0 (o_rm48_s3 (n0 := n0) hw (by omega) a_3 fa_a_3 j1 j2) (o_h hw 253 rfl) (o_h hw 254 rfl) (o_w213 hw) (o_h hw 255 rfl) rfl (lenOf o_pd35 rfl) rfl rfl (W := 0) rfl d47_4 (by decide) ?_
  rintro _ T3 L3 X3 ⟨rfl, N3q, e3⟩
  have N3 := Fr.app N0 N3q
  refine xc X3 B d47_7 0 rfl ?_
  refine xS X3 B d47_8 (l' := #[.val (.ref a_1), .val (.int 0), .val (.ref a_3), .val (.int 65), .val (.int 1), .val (.int 0)]) rfl ?_
  refine o_loop (n := 1) (Inv := fun iI TI gI => ∃ (LI : List Loc) (hI : Heap), Stand p l e (o_rm 3 0 0 43) s m #[(.ref a_1), (.int 0), (.ref a_3), (.int 65), (.int 1)] below meth c TI LI 0 0 ∧ TI.heap = hI ∧ Fr n0 LI ∧ Keep h0 hI [a_3] ∧ o_AV Z hI a_1 .byte (1 : Int32) (o_by fa_a_1) ∧ o_AV Z hI a_3 .byte (252 : Int32) (o_by (o_inf fa_a_1 65 fa_a_3 iI)) ∧ o_G Z hI ∧ gI = mkF m 10 #[.val (.ref a_1), .val (.int (Int32.ofNat iI)), .val (.ref a_3), .val (.int (Int32.ofNat (65 + iI))), .val (.int 1), .val (.int (Int32.ofNat iI))] []) ?_ ?_ ⟨_, h0, X3, e3, N3, K0, j0, (by rw [o_inf_0]; exact j1), j2, rfl⟩
  · rintro i4 T4a g4a hlt4 ⟨L4a, h4a, X4a, e4a, N4a, K4a, f4a_0, f4a_1, f4a_2, rfl⟩ ag4
    have z5 := K4a.1
    have z6 := o_lt f4a_0.lt
    have z7 := o_lt f4a_1.lt
    show o_Go _ _ _ _ T4a (mkF m 10 #[.val (.ref a_1), .val (.int (Int32.ofNat i4)), .val (.ref a_3), .val (.int (Int32.ofNat (65 + i4))), .val (.int 1), .val (.int (Int32.ofNat i4))] [])
    refine xI X4a B d47_10 rfl ?_
    refine xI X4a B d47_12 rfl ?_
    have hc8 : (Int32.ofNat i4) < (1 : Int32) := o_t47_s2_0 i4 hlt4
    refine xm X4a B d47_14 (XT.ii_ge_f hc8) ?_
    refine xa X4a B d47_17 rfl rfl ?_
    refine xi X4a B d47_18 rfl ?_
    refine o_go (fun _ k => XS.iinc X4a.here hx rfl (hb hby d47_19) rfl (l' := #[.val (.ref a_1), .val (.int (Int32.ofNat i4)), .val (.ref a_3), .val (.int ((Int32.ofNat (65 + i4)) + (1 : Int32))), .val (.int 1), .val (.int (Int32.ofNat i4))]) rfl k) ?_
    show o_Go _ _ _ _ T4a (mkF m 22 #[.val (.ref a_1), .val (.int (Int32.ofNat i4)), .val (.ref a_3), .val (.int ((Int32.ofNat (65 + i4)) + (1 : Int32))), .val (.int 1), .val (.int (Int32.ofNat i4))] [(.int (Int32.ofNat (65 + i4))), (.ref a_3)])
    rw [o_inc]
    show o_Go _ _ _ _ T4a (mkF m 22 #[.val (.ref a_1), .val (.int (Int32.ofNat i4)), .val (.ref a_3), .val (.int (Int32.ofNat ((65 + i4) + 1))), .val (.int 1), .val (.int (Int32.ofNat i4))] [(.int (Int32.ofNat (65 + i4))), (.ref a_3)])
    refine xa X4a B d47_22 rfl rfl ?_
    refine xi X4a B d47_23 rfl ?_
    refine o_go (fun _ k => XS.iinc X4a.here hx rfl (hb hby d47_24) rfl (l' := #[.val (.ref a_1), .val (.int ((Int32.ofNat i4) + (1 : Int32))), .val (.ref a_3), .val (.int (Int32.ofNat ((65 + i4) + 1))), .val (.int 1), .val (.int (Int32.ofNat i4))]) rfl k) ?_
    show o_Go _ _ _ _ T4a (mkF m 27 #[.val (.ref a_1), .val (.int ((Int32.ofNat i4) + (1 : Int32))), .val (.ref a_3), .val (.int (Int32.ofNat ((65 + i4) + 1))), .val (.int 1), .val (.int (Int32.ofNat i4))] [(.int (Int32.ofNat i4)), (.ref a_1), (.int (Int32.ofNat (65 + i4))), (.ref a_3)])
    rw [o_inc]
    show o_Go _ _ _ _ T4a (mkF m 27 #[.val (.ref a_1), .val (.int (Int32.ofNat (i4 + 1))), .val (.ref a_3), .val (.int (Int32.ofNat ((65 + i4) + 1))), .val (.int 1), .val (.int (Int32.ofNat i4))] [(.int (Int32.ofNat i4)), (.ref a_1), (.int (Int32.ofNat (65 + i4))), (.ref a_3)])
    obtain ⟨q9, c9, R9, s9, t9⟩ := id f4a_0
    have hin9 : ¬ ((Int32.ofNat i4) < 0 ∨ c9.slots.size ≤ ((Int32.ofNat i4)).toNatClampNeg) := inb_of s9 (o_ixb (z := (1 : Int32)) (n := 1) (by omega) (by decide))
    have u9 : c9.slots[((Int32.ofNat i4)).toNatClampNeg]? = some (.int ((fa_a_1 i4).toInt8.toInt32)) := o_at (k := i4) t9 s9 hin9 (o_tn (by omega)) (rfl)
    refine o_go (fun _ k => X4a.baloadBytes hx (j := (Int32.ofNat i4)) (v := (.int ((fa_a_1 i4).toInt8.toInt32))) (by rw [e4a]; exact R9.1) (State.isArrayOf_alike hZ.alike R9.2.1) R9.2.2 hin9 u9 (g := (mkF m 27 #[.val (.ref a_1), .val (.int (Int32.ofNat (i4 + 1))), .val (.ref a_3), .val (.int (Int32.ofNat ((65 + i4) + 1))), .val (.int 1), .val (.int (Int32.ofNat i4))] [(.int (Int32.ofNat i4)), (.ref a_1), (.int (Int32.ofNat (65 + i4))), (.ref a_3)])) rfl rfl (hb hby d47_27) _ k) ?_
    show o_Go _ _ _ _ T4a (mkF m 28 #[.val (.ref a_1), .val (.int (Int32.ofNat (i4 + 1))), .val (.ref a_3), .val (.int (Int32.ofNat ((65 + i4) + 1))), .val (.int 1), .val (.int (Int32.ofNat i4))] [(.int ((fa_a_1 i4).toInt8.toInt32)), (.int (Int32.ofNat (65 + i4))), (.ref a_3)])
    refine xh X4a B d47_28 255 rfl ?_
    refine xand X4a B d47_31 _ rfl ?_
    refine o_cst X4a B H e4a (o_rm43 (n0 := n0) hw (by omega) a_3 (Int32.ofNat (65 + i4)) (((fa_a_1 i4).toInt8.toInt32) &&& (255 : Int32)) (o_inf fa_a_1 65 fa_a_3 i4) (252 : Int32) (65 + i4) f4a_2 f4a_1 rfl (o_hb (n := 252) (by decide) (by omega)) (by omega)) (o_h hw 231 rfl) (o_h hw 232 rfl) (o_w213 hw) (o_h hw 233 rfl) rfl (lenOf o_pd7 rfl) rfl rfl (W := 0) rfl d47_32 (by decide) ?_
    rintro _ T10 L10 X10 ⟨rfl, N10q, K10q, f11⟩
    have N10 := Fr.app N4a N10q
    have z12 := K10q.1
    have K10 := K4a.trans K10q (allS (Or.inl o_m0) all0)
    have z13 := o_lt f11.lt
    refine o_go (fun _ k => XS.iinc X10.here hx rfl (hb hby d47_35) rfl (l' := #[.val (.ref a_1), .val (.int (Int32.ofNat (i4 + 1))), .val (.ref a_3), .val (.int (Int32.ofNat ((65 + i4) + 1))), .val (.int 1), .val (.int ((Int32.ofNat i4) + (1 : Int32)))]) rfl k) ?_
    show o_Go _ _ _ _ T10 (mkF m 38 #[.val (.ref a_1), .val (.int (Int32.ofNat (i4 + 1))), .val (.ref a_3), .val (.int (Int32.ofNat ((65 + i4) + 1))), .val (.int 1), .val (.int ((Int32.ofNat i4) + (1 : Int32)))] [])
    rw [o_inc]
    show o_Go _ _ _ _ T10 (mkF m 38 #[.val (.ref a_1), .val (.int (Int32.ofNat (i4 + 1))), .val (.ref a_3), .val (.int (Int32.ofNat ((65 + i4) + 1))), .val (.int 1), .val (.int (Int32.ofNat (i4 + 1)))] [])
    refine xg X10 B 38 10 rfl d47_38 (by decide) ?_
    have f14 := (f4a_0.keep K10q (ninS hd_a_1_a_3 nin0))
    have f15 := (f4a_2.keep K10q (allS (o_AV.plain f4a_1) all0))
    exact ag4 _ _ ⟨_, T10.heap, X10, rfl, N10, K10, f14, (by rw [← o_inf_s]; exact f11), f15, rfl⟩
  · rintro T4b g4b ⟨L4b, h4b, X4b, e4b, N4b, K4b, f4b_0, f4b_1, f4b_2, rfl⟩
    have z16 := K4b.1
    have z17 := o_lt f4b_0.lt
    have z18 := o_lt f4b_1.lt
    show o_Go _ _ _ _ T4b (mkF m 10 #[.val (.ref a_1), .val (.int (Int32.ofNat 1)), .val (.ref a_3), .val (.int (Int32.ofNat (65 + 1))), .val (.int 1), .val (.int (Int32.ofNat 1))] [])
    refine xI X4b B d47_10 rfl ?_
    refine xI X4b B d47_12 rfl ?_
    have hc19 : ¬ ((Int32.ofNat 1) < (1 : Int32)) := o_t47_s2_1  
    refine xM X4b B 14 41 rfl d47_14 (XT.ii_ge_t hc19) (by decide) ?_
    exact o_retV X4b B hret d47_41 (by decide) e4b ⟨rfl, N4b, K4b, f4b_1⟩
theorem o_rm46_s3 (hw : o_T Z a0) (Z0 : n0 ≤ h0.size) (a_1 a_3 : Addr) (fa_a_1 fa_a_3 : Nat → Int32) (j0 : o_AV Z h0 a_1 .byte (1 : Int32) (o_by fa_a_1)) (j1 : o_AV Z h0 a_3 .byte (252 : Int32) (o_by fa_a_3)) (j2 : o_G Z h0) (hd_a_1_a_3 : o_df a_1 a_3) (gw_a_3 : n0 ≤ a_3) :
    M46' l Z (o_rm 4 0 0 60) #[(.ref a_1), (.int 0), (.ref a_3), (.int 65), (.int 1)] h0 (fun v h L => v = none ∧ Fr n0 L ∧ Keep h0 h [a_3] ∧ o_AV Z h a_3 .byte (252 : Int32) (o_by (o_inf fa_a_1 65 fa_a_3 1))) := by
  refine o_start (plainFor_of_name o_pn1) (L0 := #[.val (.ref a_1), .val (.int 0), .val (.ref a_3), .val (.int 65), .val (.int 1)]) (fun _ => rfl) fun p e s m below meth c s₁ hx hby hml hown hnm hret hZ X0 e0 B H => ?_
  have N0 := Fr.nil n0
  have z0 : n0 ≤ h0.size := Z0
  have z1 := o_lt j0.lt
  have z2 := o_lt j1.lt
  have K0 : Keep h0 h0 [a_3] := Keep.refl h0 _
  refine xa X0 B d46_0 rfl rfl ?_
  refine xi X0 B d46_1 rfl ?_
  refine xa X0 B d46_2 rfl rfl ?_
  refine xi X0 B d46_3 rfl ?_
  refine xI X0 B d46_4 rfl ?_
  refine o_cst X0 B H e0 (o_rm47_s3 (n0 := n0) hw (by omega) a_1 a_3 fa_a_1 fa_a_3 j0 j1 j2 hd_a_1_a_3 (by omega)) (o_h hw 250 rfl) (o_h hw 251 rfl) (o_w213 hw) (o_h hw 252 rfl) rfl (lenOf o_pd36 rfl) rfl rfl (W := 0) rfl d46_6 (by decide) ?_
  rintro _ T3 L3 X3 ⟨rfl, N3q, K3q, f4⟩
  have N3 := Fr.app N0 N3q
  have z5 := K3q.1
  have K3 := K0.trans K3q (allS (Or.inl o_m0) all0)
  have z6 := o_lt f4.lt
  exact o_retV X3 B hret d46_9 (by decide) rfl ⟨rfl, N3, K3, f4⟩
theorem o_rm19_s10 (hw : o_T Z a0) (Z0 : n0 ≤ h0.size) (a_1 a_2 ob0 : Addr) (fa_a_2 fa_ob0 : Nat → Int32) (j0 : o_AV Z h0 a_2 .byte (252 : Int32) (o_by fa_a_2)) (j1 : o_AV Z h0 ob0 .byte (1 : Int32) (o_by fa_ob0)) (j2 : o_E0 Z h0 a_1) (j3 : o_F1 Z h0 a_1 (.int 0)) (j4 : o_F2 Z h0 a_1 (.ref ob0)) (j5 : o_G Z h0) (hd_a_1_a_2 : o_df a_1 a_2) (hd_a_2_ob0 : o_df a_2 ob0) (gw_a_2 : n0 ≤ a_2) :
    M19' l Z (o_rm 5 0 0 76) #[(.ref a_1), (.ref a_2), (.int 65), (.int 1)] h0 (fun v h L => v = none ∧ Fr n0 L ∧ Keep h0 h [a_2] ∧ o_AV Z h a_2 .byte (252 : Int32) (o_by (o_inf fa_ob0 65 fa_a_2 1))) := by
  refine o_start (plainFor_of_name o_pn2) (L0 := #[.val (.ref a_1), .val (.ref a_2), .val (.int 65), .val (.int 1)]) (fun _ => rfl) fun p e s m below meth c s₁ hx hby hml hown hnm hret hZ X0 e0 B H => ?_
  have N0 := Fr.nil n0
  have z0 : n0 ≤ h0.size := Z0
  have z1 := o_lt j0.lt
  have z2 := o_lt j1.lt
  have z3 := o_lt j2.lt
  have K0 : Keep h0 h0 [a_2] := Keep.refl h0 _
  refine xa X0 B d19_0 rfl rfl ?_
  refine o_cvi X0 B H e0 (o_rm10_s1 (n0 := n0) hw (by omega) a_1  j3 j5) (o_w65 hw) (o_w67 hw) (o_w2 hw) (o_w69 hw) (o_w66 hw) (o_w68 hw) (o_w68 hw) rfl j2 rfl (lenOf o_pd14 rfl) rfl rfl (W := 0) rfl d19_1 (by decide) ?_
  rintro _ T4 L4 X4 ⟨rfl, N4q, e4⟩
  have N4 := Fr.app N0 N4q
  refine xi X4 B d19_4 rfl ?_
  have hc5 : ¬ ((0 : Int32) = (1 : Int32)) := by decide
  refine xM X4 B 5 28 rfl d19_5 (XT.ii_ne_t hc5) (by decide) ?_
  refine xa X4 B d19_28 rfl rfl ?_
  refine o_gf X4 B H (o_w20 hw) e4 j4 d19_29 fun T6 X6 e6 => ?_
  refine xc X6 B d19_32 0 rfl ?_
  refine xa X6 B d19_33 rfl rfl ?_
  refine xi X6 B d19_34 rfl ?_
  refine xa X6 B d19_35 rfl rfl ?_
  refine o_gf X6 B H (o_w20 hw) e6 j4 d19_36 fun T7 X7 e7 => ?_
  refine xl X7 B H e7 j1 d19_39 ?_
  refine o_cst X7 B H e7 (o_rm46_s3 (n0 := n0) hw (by omega) ob0 a_2 fa_ob0 fa_a_2 j1 j0 j5 hd_a_2_ob0.sym (by omega)) (o_h hw 267 rfl) (o_h hw 248 rfl) (o_w209 hw) (o_h hw 249 rfl) rfl (lenOf o_pd36 rfl) rfl rfl (W := 0) rfl d19_40 (by decide) ?_
  rintro _ T8 L8 X8 ⟨rfl, N8q, K8q, f9⟩
  have N8 := Fr.app N4 N8q
  have z10 := K8q.1
  have K8 := K0.trans K8q (allS (Or.inl o_m0) all0)
  have z11 := o_lt f9.lt
  exact o_retV X8 B hret d19_43 (by decide) rfl ⟨rfl, N8, K8, f9⟩
theorem o_rm17_s10 (hw : o_T Z a0) (Z0 : n0 ≤ h0.size) (a_1 a_3 ob0 ob1 : Addr) (fa_ob0 fa_ob1 : Nat → Int32) (j0 : o_AV Z h0 ob0 .byte (252 : Int32) (o_by fa_ob0)) (j1 : o_AV Z h0 ob1 .byte (1 : Int32) (o_by fa_ob1)) (j2 : o_E12 Z h0 a_1) (j3 : o_E0 Z h0 a_3) (j4 : o_F9 Z h0 a_1 (.int 1)) (j5 : o_F8 Z h0 a_1 (.ref ob0)) (j6 : o_F1 Z h0 a_3 (.int 0)) (j7 : o_F2 Z h0 a_3 (.ref ob1)) (j8 : o_G Z h0) (hd_a_1_ob0 : o_df a_1 ob0) (hd_a_3_ob0 : o_df a_3 ob0) (hd_ob0_ob1 : o_df ob0 ob1) (gw_ob0 : n0 ≤ ob0) :
    M17' l Z (o_rm 6 0 0 91) #[(.ref a_1), (.int 65), (.ref a_3)] h0 (fun v h L => v = none ∧ Fr n0 L ∧ Keep h0 h [ob0] ∧ o_AV Z h ob0 .byte (252 : Int32) (o_by (o_inf fa_ob1 65 fa_ob0 1))) := by
  refine o_start (plainFor_of_name o_pn3) (L0 := #[.val (.ref a_1), .val (.int 65), .val (.ref a_3)]) (fun _ => rfl) fun p e s m below meth c s₁ hx hby hml hown hnm hret hZ X0 e0 B H => ?_
  have N0 := Fr.nil n0
  have z0 : n0 ≤ h0.size := Z0
  have z1 := o_lt j0.lt
  have z2 := o_lt j1.lt
  have z3 := o_lt j2.lt
  have z4 := o_lt j3.lt
  have K0 : Keep h0 h0 [ob0] := Keep.refl h0 _
  refine xa X0 B d17_0 rfl rfl ?_
  refine xa X0 B d17_1 rfl rfl ?_
  refine o_cpr X0 B H e0 (o_rm18_s3 (n0 := n0) hw (by omega) a_1 a_3  j2 j3 j4 j6 j8) (o_h hw 109 rfl) (o_w110 hw) (o_w41 hw) (o_h hw 113 rfl) (o_h hw 112 rfl) (o_w111 hw) j2 rfl (lenOf o_pd19 rfl) rfl rfl (W := 0) rfl d17_2 (by decide) ?_
  rintro _ T5 L5 X5 ⟨rfl, N5q, e5⟩
  have N5 := Fr.app N0 N5q
  refine xa X5 B d17_5 rfl rfl ?_
  refine xa X5 B d17_6 rfl rfl ?_
  refine o_gf X5 B H (o_w45 hw) e5 j5 d17_7 fun T6 X6 e6 => ?_
  refine xi X6 B d17_10 rfl ?_
  refine xa X6 B d17_11 rfl rfl ?_
  refine o_gf X6 B H (o_w47 hw) e6 j4 d17_12 fun T7 X7 e7 => ?_
  refine o_cvi X7 B H e7 (o_rm19_s10 (n0 := n0) hw (by omega) a_3 ob0 ob1 fa_ob0 fa_ob1 j0 j1 j3 j6 j7 j8 hd_a_3_ob0 hd_ob0_ob1 (by omega)) (o_w115 hw) (o_w117 hw) (o_w2 hw) (o_h hw 119 rfl) (o_w116 hw) (o_w118 hw) (o_w118 hw) rfl j3 rfl (lenOf o_pd20 rfl) rfl rfl (W := 0) rfl d17_15 (by decide) ?_
  rintro _ T8 L8 X8 ⟨rfl, N8q, K8q, f9⟩
  have N8 := Fr.app N5 N8q
  have z10 := K8q.1
  have K8 := K0.trans K8q (allS (Or.inl o_m0) all0)
  have z11 := o_lt f9.lt
  exact o_retV X8 B hret d17_18 (by decide) rfl ⟨rfl, N8, K8, f9⟩
theorem o_rm8_s10 (hw : o_T Z a0) (Z0 : n0 ≤ h0.size) (a_1 a_2 ob0 ob1 : Addr) (fa_ob0 fa_ob1 : Nat → Int32) (u_0 : Value) (j0 : o_AV Z h0 ob0 .byte (252 : Int32) (o_by fa_ob0)) (j1 : o_AV Z h0 ob1 .byte (1 : Int32) (o_by fa_ob1)) (j2 : o_E12 Z h0 a_1) (j3 : o_E0 Z h0 a_2) (j4 : o_F9 Z h0 a_1 (.int 1)) (j5 : o_F10 Z h0 a_1 (.int 65)) (j6 : o_F11 Z h0 a_1 u_0) (j7 : o_F8 Z h0 a_1 (.ref ob0)) (j8 : o_F1 Z h0 a_2 (.int 0)) (j9 : o_F2 Z h0 a_2 (.ref ob1)) (j10 : o_G Z h0) (hd_a_1_a_2 : o_df a_1 a_2) (hd_a_1_ob0 : o_df a_1 ob0) (hd_a_1_ob1 : o_df a_1 ob1) (hd_a_2_ob0 : o_df a_2 ob0) (hd_ob0_ob1 : o_df ob0 ob1) (gw_ob0 : n0 ≤ ob0) (gw_a_1 : n0 ≤ a_1) :
    M8' l Z (o_rm 7 0 0 105) #[(.ref a_1), (.ref a_2)] h0 (fun v h L => v = some (.ref a_1) ∧ Fr n0 L ∧ Keep h0 h [ob0, a_1] ∧ o_AV Z h ob0 .byte (252 : Int32) (o_by (o_inf fa_ob1 65 fa_ob0 1)) ∧ o_E12 Z h a_1 ∧ o_F9 Z h a_1 (.int 1) ∧ o_F10 Z h a_1 (.int 66) ∧ o_F11 Z h a_1 u_0 ∧ o_F8 Z h a_1 (.ref ob0)) := by
  refine o_start (plainFor_of_name o_pn3) (L0 := #[.val (.ref a_1), .val (.ref a_2), .unset]) (fun _ => rfl) fun p e s m below meth c s₁ hx hby hml hown hnm hret hZ X0 e0 B H => ?_
  have N0 := Fr.nil n0
  have z0 : n0 ≤ h0.size := Z0
  have z1 := o_lt j0.lt
  have z2 := o_lt j1.lt
  have z3 := o_lt j2.lt
  have z4 := o_lt j3.lt
  have K0 : Keep h0 h0 [ob0, a_1] := Keep.refl h0 _
  refine xa X0 B d8_0 rfl rfl ?_
  refine xN X0 B 1 9 rfl d8_1 (by decide) ?_
  refine xa X0 B d8_9 rfl rfl ?_
  refine o_cvi X0 B H e0 (o_rm9_s3 (n0 := n0) hw (by omega) a_2 ob1 fa_ob1 j1 j3 j8 j9 j10) (o_w60 hw) (o_w62 hw) (o_w2 hw) (o_h hw 64 rfl) (o_w61 hw) (o_w63 hw) (o_w63 hw) rfl j3 rfl (lenOf o_pd15 rfl) rfl rfl (W := 0) rfl d8_10 (by decide) ?_
  rintro _ T5 L5 X5 ⟨rfl, N5q, e5⟩
  have N5 := Fr.app N0 N5q
  refine xs X5 B d8_13 (l' := #[.val (.ref a_1), .val (.ref a_2), .val (.int 1)]) rfl ?_
  refine xa X5 B d8_14 rfl rfl ?_
  refine xa X5 B d8_15 rfl rfl ?_
  refine o_gf X5 B H (o_w71 hw) e5 j5 d8_16 fun T6 X6 e6 => ?_
  refine xi X6 B d8_19 rfl ?_
  refine xadd X6 B d8_20 (66) rfl ?_
  refine o_cpr X6 B H e6 (o_rm11_s8 (n0 := n0) hw (by omega) a_1 ob0 fa_ob0 j0 j4 j7) (o_h hw 73 rfl) (o_w74 hw) (o_w41 hw) (o_h hw 77 rfl) (o_w76 hw) (o_w75 hw) j2 rfl (lenOf o_pd12 rfl) rfl rfl (W := 0) rfl d8_21 (by decide) ?_
  rintro _ T7 L7 X7 ⟨rfl, N7q, e7⟩
  have N7 := Fr.app N5 N7q
  refine xa X7 B d8_24 rfl rfl ?_
  refine xa X7 B d8_25 rfl rfl ?_
  refine o_gf X7 B H (o_w71 hw) e7 j5 d8_26 fun T8 X8 e8 => ?_
  refine xa X8 B d8_29 rfl rfl ?_
  refine o_cpr X8 B H e8 (o_rm17_s10 (n0 := n0) hw (by omega) a_1 a_2 ob0 ob1 fa_ob0 fa_ob1 j0 j1 j2 j3 j4 j7 j8 j9 j10 hd_a_1_ob0 hd_a_2_ob0 hd_ob0_ob1 (by omega)) (o_h hw 104 rfl) (o_w105 hw) (o_w41 hw) (o_h hw 108 rfl) (o_h hw 107 rfl) (o_w106 hw) j2 rfl (lenOf o_pd21 rfl) rfl rfl (W := 0) rfl d8_30 (by decide) ?_
  rintro _ T9 L9 X9 ⟨rfl, N9q, K9q, f10⟩
  have N9 := Fr.app N7 N9q
  have z11 := K9q.1
  have K9 := K0.trans K9q (allS (Or.inl o_m0) all0)
  have z12 := o_lt f10.lt
  refine xa X9 B d8_33 rfl rfl ?_
  refine xd X9 B d8_34 rfl ?_
  have f13 := (j5.keep K9q (ninS hd_a_1_ob0 nin0))
  refine o_gf X9 B H (o_w71 hw) rfl f13 d8_35 fun T14 X14 e14 => ?_
  refine xi X14 B d8_38 rfl ?_
  refine xadd X14 B d8_39 (66) rfl ?_
  have f15 := (j2.keep K9q)
  obtain ⟨T16, h16, X16, e16, W16, st16⟩ := putF X14 hx hZ hown (host := "") (Or.inl (o_w71 hw)) Via.refl e14 f13 f15 (Or.inl (o_w72 hw)) (o_w32 hw) (ty := .int) (by decide) rfl rfl (g := (mkF m 40 #[.val (.ref a_1), .val (.ref a_2), .val (.int 1)] [(.int 66), (.ref a_1)])) rfl rfl (hb hby d8_40)
  have z17 := W16.size
  have K16 := K9.wr W16 (Or.inl (List.mem_of_getElem? (i := 1) rfl))
  have N16 := Fr.snoc X16 N9 (by omega : n0 ≤ a_1)
  have Fw16 : o_F10 Z h16 a_1 (.int 66) := Fld.same W16 f13
  refine o_go st16 ?_
  refine xa X16 B d8_43 rfl rfl ?_
  have f19 := (f10.other W16 hd_a_1_ob0.sym)
  have f20 := (f15.wr W16)
  have f21 := ((j4.keep K9q (ninS hd_a_1_ob0 nin0)).other W16 (Or.inr (slot_ne (Or.inl (o_w48 hw)) (Or.inl (o_w72 hw)) (by decide) (t := .byte) (t' := .int) (by decide) (by decide))))
  have f22 := ((j6.keep K9q (ninS hd_a_1_ob0 nin0)).other W16 (Or.inr (slot_ne (Or.inl (o_w269 hw)) (Or.inl (o_w72 hw)) (by decide) (t := .boolean) (t' := .int) (by decide) (by decide))))
  have f23 := ((j7.keep K9q (ninS hd_a_1_ob0 nin0)).other W16 (Or.inr (slot_ne (Or.inl (o_w46 hw)) (Or.inl (o_w72 hw)) (by decide) (t := (.array .byte)) (t' := .int) (by decide) (by decide))))
  exact o_retA X16 B hret rfl rfl rfl d8_44 (by decide) e16 ⟨rfl, N16, K16, f19, f20, f21, Fw16, f22, f23⟩
theorem o_rm7_s10 (hw : o_T Z a0) (Z0 : n0 ≤ h0.size) (a_1 a_2 ob0 ob1 : Addr) (fa_ob0 fa_ob1 : Nat → Int32) (u_0 : Value) (j0 : o_AV Z h0 ob0 .byte (252 : Int32) (o_by fa_ob0)) (j1 : o_AV Z h0 ob1 .byte (1 : Int32) (o_by fa_ob1)) (j2 : o_E12 Z h0 a_1) (j3 : o_E0 Z h0 a_2) (j4 : o_F9 Z h0 a_1 (.int 1)) (j5 : o_F10 Z h0 a_1 (.int 65)) (j6 : o_F11 Z h0 a_1 u_0) (j7 : o_F8 Z h0 a_1 (.ref ob0)) (j8 : o_F1 Z h0 a_2 (.int 0)) (j9 : o_F2 Z h0 a_2 (.ref ob1)) (j10 : o_G Z h0) (hd_a_1_a_2 : o_df a_1 a_2) (hd_a_1_ob0 : o_df a_1 ob0) (hd_a_1_ob1 : o_df a_1 ob1) (hd_a_2_ob0 : o_df a_2 ob0) (hd_ob0_ob1 : o_df ob0 ob1) (gw_ob0 : n0 ≤ ob0) (gw_a_1 : n0 ≤ a_1) :
    M7' l Z (o_rm 8 0 0 119) #[(.ref a_1), (.ref a_2)] h0 (fun v h L => v = some (.ref a_1) ∧ Fr n0 L ∧ Keep h0 h [ob0, a_1] ∧ o_AV Z h ob0 .byte (252 : Int32) (o_by (o_inf fa_ob1 65 fa_ob0 1)) ∧ o_E12 Z h a_1 ∧ o_F9 Z h a_1 (.int 1) ∧ o_F10 Z h a_1 (.int 66) ∧ o_F11 Z h a_1 u_0 ∧ o_F8 Z h a_1 (.ref ob0)) := by
  refine o_start (plainFor_of_name o_pn4) (L0 := #[.val (.ref a_1), .val (.ref a_2)]) (fun _ => rfl) fun p e s m below meth c s₁ hx hby hml hown hnm hret hZ X0 e0 B H => ?_
  have N0 := Fr.nil n0
  have z0 : n0 ≤ h0.size := Z0
  have z1 := o_lt j0.lt
  have z2 := o_lt j1.lt
  have z3 := o_lt j2.lt
  have z4 := o_lt j3.lt
  have K0 : Keep h0 h0 [ob0, a_1] := Keep.refl h0 _
  refine xa X0 B d7_0 rfl rfl ?_
  refine xa X0 B d7_1 rfl rfl ?_
  refine o_csu X0 B H e0 (o_rm8_s10 (n0 := n0) hw (by omega) a_1 a_2 ob0 ob1 fa_ob0 fa_ob1 u_0 j0 j1 j2 j3 j4 j5 j6 j7 j8 j9 j10 hd_a_1_a_2 hd_a_1_ob0 hd_a_1_ob1 hd_a_2_ob0 hd_ob0_ob1 (by omega) (by omega)) (o_h hw 55 rfl) (o_h hw 56 rfl) (o_w41 hw) (o_h hw 59 rfl) (o_w58 hw) (o_w76 hw) rfl (o_w57 hw) j2 (by decide) rfl (lenOf o_pd22 rfl) rfl rfl (W := 0) rfl d7_2 (by decide) ?_
  rintro _ T5 L5 X5 ⟨rfl, N5q, K5q, f6, f7, f8, f9, f10, f11⟩
  have N5 := Fr.app N0 N5q
  have z12 := K5q.1
  have K5 := K0.trans K5q (allS (Or.inl o_m0) (allS (Or.inl (List.mem_of_getElem? (i := 1) rfl)) all0))
  have z13 := o_lt f6.lt
  have z14 := o_lt f7.lt
  refine xp X5 B d7_5 rfl ?_
  refine xa X5 B d7_6 rfl rfl ?_
  exact o_retA X5 B hret rfl rfl rfl d7_7 (by decide) rfl ⟨rfl, N5, K5, f6, f7, f8, f9, f10, f11⟩
theorem o_rm29_s5 (hw : o_T Z a0) (Z0 : n0 ≤ h0.size) :
    M29' l Z (o_rm 0 0 0 0) #[(.int 0), (.int 132)] h0 (fun v h L => v = none ∧ Fr n0 L ∧ h = h0) := by
  refine o_start (plainFor_of_name o_pn6) (L0 := #[.val (.int 0), .val (.int 132)]) (fun _ => rfl) fun p e s m below meth c s₁ hx hby hml hown hnm hret hZ X0 e0 B H => ?_
  have N0 := Fr.nil n0
  have z0 : n0 ≤ h0.size := Z0
  refine xi X0 B d29_0 rfl ?_
  refine xi X0 B d29_1 rfl ?_
  have hc1 : ¬ ((132 : Int32) < (0 : Int32)) := by decide
  refine xM X0 B 2 37 rfl d29_2 (XT.ii_ge_t hc1) (by decide) ?_
  exact o_retV X0 B hret d29_37 (by decide) e0 ⟨rfl, N0, rfl⟩
theorem o_rm16_s7 (hw : o_T Z a0) (Z0 : n0 ≤ h0.size) :
    M16' l Z (o_rm 0 0 0 0) #[(.int 252), (.int 132)] h0 (fun v h L => v = some (.int 132) ∧ Fr n0 L ∧ h = h0) := by
  refine o_start (Jvm.Free.JP.mathPlain rfl (by decide +kernel)) (L0 := #[.val (.int 252), .val (.int 132)]) (fun _ => rfl) fun p e s m below meth c s₁ hx hby hml hown hnm hret hZ X0 e0 B H => ?_
  have N0 := Fr.nil n0
  have z0 : n0 ≤ h0.size := Z0
  refine xi X0 B d16_0 rfl ?_
  refine xi X0 B d16_1 rfl ?_
  have hc1 : (132 : Int32) < (252 : Int32) := by decide
  refine xM X0 B 2 9 rfl d16_2 (XT.ii_gt_t hc1) (by decide) ?_
  refine xi X0 B d16_9 rfl ?_
  exact o_retI X0 B hret (Or.inl rfl) rfl d16_10 (by decide) e0 ⟨rfl, N0, rfl⟩
theorem o_rm28_s5 (hw : o_T Z a0) (Z0 : n0 ≤ h0.size) (a_1 : Addr) (fa_a_1 : Nat → Int32) (j0 : o_AV Z h0 a_1 .byte (252 : Int32) (o_by fa_a_1)) :
    M28' l Z (o_rm 1 1 132 40) #[(.ref a_1), (.int 0), (.int 132)] h0 (fun v h L => ∃ (x_0 : Addr), v = some (.ref x_0) ∧ Fr n0 L ∧ Keep h0 h [] ∧ o_AV Z h x_0 .byte (132 : Int32) (o_by (o_cpi fa_a_1 0 (fun _ => 0) 0 132)) ∧ (h0.size ≤ x_0)) := by
  refine o_start (plainFor_of_name o_pn6) (L0 := #[.val (.ref a_1), .val (.int 0), .val (.int 132), .unset, .unset]) (fun _ => rfl) fun p e s m below meth c s₁ hx hby hml hown hnm hret hZ X0 e0 B H => ?_
  have N0 := Fr.nil n0
  have z0 : n0 ≤ h0.size := Z0
  have z1 := o_lt j0.lt
  have K0 : Keep h0 h0 [] := Keep.refl h0 _
  refine xi X0 B d28_0 rfl ?_
  refine xi X0 B d28_1 rfl ?_
  refine o_cst X0 B H e0 (o_rm29_s5 (n0 := n0) hw (by omega)   ) (o_h hw 158 rfl) (o_h hw 159 rfl) (o_w95 hw) (o_h hw 160 rfl) rfl (lenOf o_pd26 rfl) rfl rfl (W := 0) rfl d28_2 (by decide) ?_
  rintro _ T2 L2 X2 ⟨rfl, N2q, e2⟩
  have N2 := Fr.app N0 N2q
  refine xi X2 B d28_5 rfl ?_
  refine xi X2 B d28_6 rfl ?_
  refine xsub X2 B d28_7 (132) rfl ?_
  refine xs X2 B d28_8 (l' := #[.val (.ref a_1), .val (.int 0), .val (.int 132), .val (.int 132), .unset]) rfl ?_
  refine xi X2 B d28_9 rfl ?_
  obtain ⟨T3, h3, k3, X3, e3, E3, A3, st3⟩ := newP X2 hx hZ (hw _ (List.mem_of_getElem? (i := 15) rfl)) e2 (g := (mkF m 10 #[.val (.ref a_1), .val (.int 0), .val (.int 132), .val (.int 132), .unset] [(.int 132)])) rfl (hb hby d28_10) rfl (by decide) (cap := 132) (by decide) (by decide) (by decide) (by decide)
  obtain ⟨b3, g3⟩ : ∃ z, z = h0.size := ⟨_, rfl⟩
  rw [← g3] at A3 st3
  have z4 := E3.1
  have lt_b3 := o_lt A3.lt
  have K3 := K0.ext E3
  have V_b3 : o_AV Z h3 b3 .byte (132 : Int32) (o_by (fun _ => 0)) := o_AV.congr (o_AV.new A3 (by decide)) fun i _ => (o_by0 i).symm
  refine o_go st3 ?_
  refine xT X3 B d28_12 rfl (l' := #[.val (.ref a_1), .val (.int 0), .val (.int 132), .val (.int 132), .val (.ref b3)]) rfl ?_
  refine xa X3 B d28_14 rfl rfl ?_
  refine xi X3 B d28_15 rfl ?_
  refine xA X3 B d28_16 rfl rfl ?_
  refine xc X3 B d28_18 0 rfl ?_
  refine xa X3 B d28_19 rfl rfl ?_
  have f5 := (j0.ext E3)
  refine xl X3 B H e3 f5 d28_20 ?_
  refine xi X3 B d28_21 rfl ?_
  refine xsub X3 B d28_22 (252) rfl ?_
  refine xi X3 B d28_23 rfl ?_
  refine o_cst X3 B H e3 (o_rm16_s7 (n0 := n0) hw (by omega)   ) (o_h hw 97 rfl) (o_h hw 98 rfl) (o_w89 hw) (o_h hw 99 rfl) rfl (lenOf o_pd16 rfl) rfl rfl (W := 4) rfl d28_24 (by decide) ?_
  rintro _ T6 L6 X6 ⟨rfl, N6q, e6⟩
  have N6 := Fr.app N2 N6q
  obtain ⟨T7, h7, L7, X7, e7, N7, Kq7, V7, st7⟩ := o_cpB X6 hx hZ hown (o_h hw 100 rfl) (o_w103 hw) (o_w101 hw) (o_w102 hw) e6 f5 V_b3 (sp' := 0) (dp' := 0) (nn' := 132) (by decide) (by decide) (by decide) (by decide) (by decide) (by decide) (by decide) (by decide) N6 (by omega) (g := (mkF m 27 #[.val (.ref a_1), .val (.int 0), .val (.int 132), .val (.int 132), .val (.ref b3)] [(.int 132), (.int 0), (.ref b3), (.int 0), (.ref a_1)])) rfl (by rw [hml]; rfl) rfl (hb hby d28_27) (by decide) (W := 0) (by show 2 * 0 + _ ≤ _; exact Nat.le_of_eq rfl) (by decide)
  have z8 := Kq7.1
  have K7 := K3.trans Kq7 (allS (Or.inr (by omega)) all0)
  refine o_go st7 ?_
  refine xA X7 B d28_30 rfl rfl ?_
  exact o_retA X7 B hret rfl rfl rfl d28_32 (by decide) e7 ⟨b3, rfl, N7, K7, V7, (by omega)⟩
theorem o_rm27_s5 (hw : o_T Z a0) (Z0 : n0 ≤ h0.size) (a_1 : Addr) (fa_a_1 : Nat → Int32) (j0 : o_AV Z h0 a_1 .byte (252 : Int32) (o_by fa_a_1)) :
    M27' l Z (o_rm 2 1 132 56) #[(.ref a_1), (.int 0), (.int 132)] h0 (fun v h L => ∃ (x_0 : Addr), v = some (.ref x_0) ∧ Fr n0 L ∧ Keep h0 h [] ∧ o_AV Z h x_0 .byte (132 : Int32) (o_by (o_cpi fa_a_1 0 (fun _ => 0) 0 132)) ∧ (h0.size ≤ x_0)) := by
  refine o_start (plainFor_of_name o_pn6) (L0 := #[.val (.ref a_1), .val (.int 0), .val (.int 132)]) (fun _ => rfl) fun p e s m below meth c s₁ hx hby hml hown hnm hret hZ X0 e0 B H => ?_
  have N0 := Fr.nil n0
  have z0 : n0 ≤ h0.size := Z0
  have z1 := o_lt j0.lt
  have K0 : Keep h0 h0 [] := Keep.refl h0 _
  refine xi X0 B d27_0 rfl ?_
  have hc2 : (0 : Int32) = 0 := by decide
  refine xn X0 B d27_1 (XT.i0_ne_f hc2) ?_
  refine xi X0 B d27_4 rfl ?_
  refine xa X0 B d27_5 rfl rfl ?_
  refine xl X0 B H e0 j0 d27_6 ?_
  have hc3 : ¬ ((132 : Int32) = (252 : Int32)) := by decide
  refine xm X0 B d27_7 (XT.ii_eq_f hc3) ?_
  refine xa X0 B d27_10 rfl rfl ?_
  refine xi X0 B d27_11 rfl ?_
  refine xi X0 B d27_12 rfl ?_
  refine o_cst X0 B H e0 (o_rm28_s5 (n0 := n0) hw (by omega) a_1 fa_a_1 j0) (o_h hw 155 rfl) (o_h hw 156 rfl) (o_w95 hw) (o_h hw 157 rfl) rfl (lenOf o_pd27 rfl) rfl rfl (W := 0) rfl d27_13 (by decide) ?_
  rintro _ T4 L4 X4 ⟨x_5, rfl, N4q, K4q, f6, f7⟩
  have N4 := Fr.app N0 N4q
  have z8 := K4q.1
  have K4 := K0.trans K4q all0
  have z9 := o_lt f6.lt
  exact o_retA X4 B hret rfl rfl rfl d27_16 (by decide) rfl ⟨x_5, rfl, N4, K4, f6, (by omega)⟩
theorem o_rm22_s5 (hw : o_T Z a0) (Z0 : n0 ≤ h0.size) (a_1 a_2 ob0 : Addr) (fa_ob0 : Nat → Int32) (u_0 u_1 : Value) (j0 : o_AV Z h0 ob0 .byte (252 : Int32) (o_by fa_ob0)) (j1 : o_E0 Z h0 a_1) (j2 : o_E12 Z h0 a_2) (j3 : o_F1 Z h0 a_1 u_0) (j4 : o_F2 Z h0 a_1 u_1) (j5 : o_F9 Z h0 a_2 (.int 1)) (j6 : o_F10 Z h0 a_2 (.int 66)) (j7 : o_F11 Z h0 a_2 (.int 0)) (j8 : o_F8 Z h0 a_2 (.ref ob0)) (j9 : o_G Z h0) (hd_a_1_a_2 : o_df a_1 a_2) (hd_a_1_ob0 : o_df a_1 ob0) (gw_a_1 : n0 ≤ a_1) :
    M22' l Z (o_rm 3 1 132 71) #[(.ref a_1), (.ref a_2), .null] h0 (fun v h L => ∃ (x_0 : Addr), v = none ∧ Fr n0 L ∧ Keep h0 h [a_1] ∧ o_E0 Z h a_1 ∧ o_F1 Z h a_1 (.int 1) ∧ o_F2 Z h a_1 (.ref x_0) ∧ o_AV Z h x_0 .byte (132 : Int32) (o_by (o_cpi fa_ob0 0 (fun _ => 0) 0 132)) ∧ (h0.size ≤ x_0)) := by
  refine o_start (plainFor_of_name o_pn2) (L0 := #[.val (.ref a_1), .val (.ref a_2), .val .null, .unset, .unset]) (fun _ => rfl) fun p e s m below meth c s₁ hx hby hml hown hnm hret hZ X0 e0 B H => ?_
  have N0 := Fr.nil n0
  have z0 : n0 ≤ h0.size := Z0
  have z1 := o_lt j0.lt
  have z2 := o_lt j1.lt
  have z3 := o_lt j2.lt
  have K0 : Keep h0 h0 [a_1] := Keep.refl h0 _
  refine xa X0 B d22_0 rfl rfl ?_
  obtain ⟨T4, X4, e4, st4⟩ := initO X0 hx hZ hown (o_w11 hw) (o_w12 hw) (o_w13 hw) e0 (g := (mkF m 1 #[.val (.ref a_1), .val (.ref a_2), .val .null, .unset, .unset] [(.ref a_1)])) rfl (by rw [hml]; rfl) rfl (hb hby d22_1) (by decide) (W := 0) (by show 2 * 0 + _ ≤ _; exact Nat.le_of_eq rfl) (by decide)
  refine o_go st4 ?_
  refine xa X4 B d22_4 rfl rfl ?_
  refine o_cvi X4 B H e4 (o_rm23_s1 (n0 := n0) hw (by omega) a_2 ob0 j8) (o_h hw 134 rfl) (o_h hw 136 rfl) (o_w41 hw) (o_h hw 138 rfl) (o_h hw 135 rfl) (o_h hw 137 rfl) (o_h hw 137 rfl) rfl j2 rfl (lenOf o_pd24 rfl) rfl rfl (W := 0) rfl d22_5 (by decide) ?_
  rintro _ T5 L5 X5 ⟨rfl, N5q, e5⟩
  have N5 := Fr.app N0 N5q
  refine xt X5 B d22_8 rfl (l' := #[.val (.ref a_1), .val (.ref a_2), .val .null, .val (.ref ob0), .unset]) rfl ?_
  refine xa X5 B d22_9 rfl rfl ?_
  refine o_cvi X5 B H e5 (o_rm24_s3 (n0 := n0) hw (by omega) a_2  j2 j6) (o_h hw 139 rfl) (o_h hw 143 rfl) (o_w33 hw) (o_h hw 144 rfl) (o_h hw 140 rfl) (o_h hw 142 rfl) (o_w76 hw) rfl j2 rfl (lenOf o_pd15 rfl) rfl rfl (W := 0) rfl d22_10 (by decide) ?_
  rintro _ T6 L6 X6 ⟨rfl, N6q, e6⟩
  have N6 := Fr.app N5 N6q
  refine xS X6 B d22_13 (l' := #[.val (.ref a_1), .val (.ref a_2), .val .null, .val (.ref ob0), .val (.int 66)]) rfl ?_
  refine xa X6 B d22_15 rfl rfl ?_
  refine o_cvi X6 B H e6 (o_rm26_s2 (n0 := n0) hw (by omega) a_2  j5 j9) (o_h hw 147 rfl) (o_h hw 149 rfl) (o_w41 hw) (o_h hw 151 rfl) (o_h hw 148 rfl) (o_w150 hw) (o_w150 hw) rfl j2 rfl (lenOf o_pd25 rfl) rfl rfl (W := 0) rfl d22_16 (by decide) ?_
  rintro _ T7 L7 X7 ⟨rfl, N7q, e7⟩
  have N7 := Fr.app N6 N7q
  have hc8 : (0 : Int32) = 0 := by decide
  refine xy X7 B 19 41 rfl d22_19 (XT.i0_eq_t hc8) (by decide) ?_
  refine o_gs X7 B H (o_w70 hw) e7 j9.1 d22_41 fun T9 X9 e9 => ?_
  refine xn X9 B d22_44 (XT.i0_eq_f (o_hcs j9)) ?_
  refine xa X9 B d22_47 rfl rfl ?_
  refine o_gf X9 B H (o_h hw 268 rfl) e9 j7 d22_48 fun T11 X11 e11 => ?_
  have hc12 : (0 : Int32) = 0 := by decide
  refine xy X11 B 51 79 rfl d22_51 (XT.i0_eq_t hc12) (by decide) ?_
  refine xa X11 B d22_79 rfl rfl ?_
  refine xc X11 B d22_80 1 rfl ?_
  obtain ⟨T13, h13, X13, e13, W13, st13⟩ := putFN X11 hx hZ hown (o_w21 hw) Via.refl e11 j3 j1 (Or.inr ⟨(o_w17 hw), rfl, hnm⟩) (o_w1 hw) (ty := .byte) (v' := .int 1) (by decide) (rfl) (fits_nar_byte (1 : Int32)) (g := (mkF m 81 #[.val (.ref a_1), .val (.ref a_2), .val .null, .val (.ref ob0), .val (.int 66)] [(.int 1), (.ref a_1)])) rfl rfl (hb hby d22_81)
  have z14 := W13.size
  have K13 := K0.wr W13 (Or.inl o_m0)
  have N13 := Fr.snoc X13 N7 (by omega : n0 ≤ a_1)
  have Fw13 : o_F1 Z h13 a_1 (.int 1) := Fld.same W13 j3
  refine o_go st13 ?_
  refine xa X13 B d22_84 rfl rfl ?_
  refine xa X13 B d22_85 rfl rfl ?_
  refine xc X13 B d22_86 0 rfl ?_
  refine xI X13 B d22_87 rfl ?_
  refine xc X13 B d22_89 1 rfl ?_
  refine xshl X13 B d22_90 (132) rfl ?_
  have f15 := (j0.other W13 hd_a_1_ob0.sym)
  refine o_cst X13 B H e13 (o_rm27_s5 (n0 := n0) hw (by omega) ob0 fa_ob0 f15) (o_h hw 152 rfl) (o_h hw 153 rfl) (o_w95 hw) (o_h hw 154 rfl) rfl (lenOf o_pd27 rfl) rfl rfl (W := 1) rfl d22_91 (by decide) ?_
  rintro _ T16 L16 X16 ⟨x_17, rfl, N16q, K16q, f18, f19⟩
  have N16 := Fr.app N13 N16q
  have z20 := K16q.1
  have K16 := K13.trans K16q all0
  have z21 := o_lt f18.lt
  have f22 := ((j1.wr W13).keep K16q)
  have f23 := ((j4.other W13 (Or.inr (slot_ne (Or.inr (o_w16 hw)) (Or.inr (o_w17 hw)) (by decide) (t := (.array .byte)) (t' := .byte) (by decide) (by decide)))).keep K16q nin0)
  obtain ⟨T24, h24, X24, e24, W24, st24⟩ := putF X16 hx hZ hown (host := "") (Or.inl (o_w20 hw)) Via.refl rfl f23 f22 (Or.inr ⟨(o_w16 hw), rfl, hnm⟩) (o_w1 hw) (ty := (.array .byte)) (by decide) rfl rfl (g := (mkF m 94 #[.val (.ref a_1), .val (.ref a_2), .val .null, .val (.ref ob0), .val (.int 66)] [(.ref x_17), (.ref a_1)])) rfl rfl (hb hby d22_94)
  have z25 := W24.size
  have K24 := K16.wr W24 (Or.inl o_m0)
  have N24 := Fr.snoc X24 N16 (by omega : n0 ≤ a_1)
  have Fw24 : o_F2 Z h24 a_1 (.ref x_17) := Fld.same W24 f23
  refine o_go st24 ?_
  have f27 := (f22.wr W24)
  have f28 := ((Fw13.keep K16q nin0).other W24 (Or.inr (slot_ne (Or.inr (o_w17 hw)) (Or.inr (o_w16 hw)) (by decide) (t := .byte) (t' := (.array .byte)) (by decide) (by decide))))
  have f29 := (f18.other W24 (o_ne (by omega)))
  exact o_retV X24 B hret d22_97 (by decide) e24 ⟨x_17, rfl, N24, K24, f27, f28, Fw24, f29, (by omega)⟩
theorem o_rm21_s5 (hw : o_T Z a0) (Z0 : n0 ≤ h0.size) (a_1 a_2 ob0 : Addr) (fa_ob0 : Nat → Int32) (u_0 u_1 : Value) (j0 : o_AV Z h0 ob0 .byte (252 : Int32) (o_by fa_ob0)) (j1 : o_E0 Z h0 a_1) (j2 : o_E12 Z h0 a_2) (j3 : o_F1 Z h0 a_1 u_0) (j4 : o_F2 Z h0 a_1 u_1) (j5 : o_F9 Z h0 a_2 (.int 1)) (j6 : o_F10 Z h0 a_2 (.int 66)) (j7 : o_F11 Z h0 a_2 (.int 0)) (j8 : o_F8 Z h0 a_2 (.ref ob0)) (j9 : o_G Z h0) (hd_a_1_a_2 : o_df a_1 a_2) (hd_a_1_ob0 : o_df a_1 ob0) (gw_a_1 : n0 ≤ a_1) :
    M21' l Z (o_rm 4 1 132 87) #[(.ref a_1), (.ref a_2)] h0 (fun v h L => ∃ (x_0 : Addr), v = none ∧ Fr n0 L ∧ Keep h0 h [a_1] ∧ o_E0 Z h a_1 ∧ o_F1 Z h a_1 (.int 1) ∧ o_F2 Z h a_1 (.ref x_0) ∧ o_AV Z h x_0 .byte (132 : Int32) (o_by (o_cpi fa_ob0 0 (fun _ => 0) 0 132)) ∧ (h0.size ≤ x_0)) := by
  refine o_start (plainFor_of_name o_pn2) (L0 := #[.val (.ref a_1), .val (.ref a_2)]) (fun _ => rfl) fun p e s m below meth c s₁ hx hby hml hown hnm hret hZ X0 e0 B H => ?_
  have N0 := Fr.nil n0
  have z0 : n0 ≤ h0.size := Z0
  have z1 := o_lt j0.lt
  have z2 := o_lt j1.lt
  have z3 := o_lt j2.lt
  have K0 : Keep h0 h0 [a_1] := Keep.refl h0 _
  refine xa X0 B d21_0 rfl rfl ?_
  refine xa X0 B d21_1 rfl rfl ?_
  refine xu X0 B d21_2 ?_
  refine o_csp (a := a_1) X0 B H e0 (o_rm22_s5 (n0 := n0) hw (by omega) a_1 a_2 ob0 fa_ob0 u_0 u_1 j0 j1 j2 j3 j4 j5 j6 j7 j8 j9 hd_a_1_a_2 hd_a_1_ob0 (by omega)) (o_h hw 131 rfl) (o_h hw 132 rfl) (o_w2 hw) (o_h hw 133 rfl) rfl rfl (lenOf o_pd28 rfl) rfl rfl (W := 0) rfl d21_3 (by decide) ?_
  rintro _ T4 L4 X4 ⟨x_5, rfl, N4q, K4q, f6, f7, f8, f9, f10⟩
  have N4 := Fr.app N0 N4q
  have z11 := K4q.1
  have K4 := K0.trans K4q (allS (Or.inl o_m0) all0)
  have z12 := o_lt f6.lt
  have z13 := o_lt f9.lt
  exact o_retV X4 B hret d21_6 (by decide) rfl ⟨x_5, rfl, N4, K4, f6, f7, f8, f9, (by omega)⟩
theorem o_rm20_s5 (hw : o_T Z a0) (Z0 : n0 ≤ h0.size) (a_1 ob0 : Addr) (fa_ob0 : Nat → Int32) (j0 : o_AV Z h0 ob0 .byte (252 : Int32) (o_by fa_ob0)) (j1 : o_E12 Z h0 a_1) (j2 : o_F9 Z h0 a_1 (.int 1)) (j3 : o_F10 Z h0 a_1 (.int 66)) (j4 : o_F11 Z h0 a_1 (.int 0)) (j5 : o_F8 Z h0 a_1 (.ref ob0)) (j6 : o_G Z h0) :
    M20' l Z (o_rm 5 2 136 101) #[(.ref a_1)] h0 (fun v h L => ∃ (x_0 : Addr) (x_1 : Addr), v = some (.ref x_0) ∧ Fr n0 L ∧ Keep h0 h [] ∧ o_E0 Z h x_0 ∧ o_F1 Z h x_0 (.int 1) ∧ o_F2 Z h x_0 (.ref x_1) ∧ o_AV Z h x_1 .byte (132 : Int32) (o_by (o_cpi fa_ob0 0 (fun _ => 0) 0 132)) ∧ (h0.size ≤ x_0) ∧ (h0.size ≤ x_1) ∧ (o_lts [x_0, x_1])) := by
  refine o_start (plainFor_of_name o_pn4) (L0 := #[.val (.ref a_1)]) (fun _ => rfl) fun p e s m below meth c s₁ hx hby hml hown hnm hret hZ X0 e0 B H => ?_
  have N0 := Fr.nil n0
  have z0 : n0 ≤ h0.size := Z0
  have z1 := o_lt j0.lt
  have z2 := o_lt j1.lt
  have K0 : Keep h0 h0 [] := Keep.refl h0 _
  obtain ⟨T3, h3, X3, e3, E3, A3, D3, Y3, st3⟩ := newO X0 hx hZ hown (o_h hw 127 rfl) (o_w1 hw) (o_w2 hw) e0 (g := (mkF m 0 #[.val (.ref a_1)] [])) rfl (hb hby d20_0) (by decide) (by decide)
  obtain ⟨b3, g3⟩ : ∃ z, z = h0.size := ⟨_, rfl⟩
  rw [← g3] at A3 D3 Y3 st3
  have z4 := E3.1
  have lt_b3 := o_lt A3.lt
  have K3 := K0.ext E3
  have F_value_b3 : o_F2 Z h3 b3 .null := D3 (Or.inr (o_w16 hw)) (ty := (.array .byte)) (by decide)
  have F_coder_b3 : o_F1 Z h3 b3 (.int 0) := D3 (Or.inr (o_w17 hw)) (ty := .byte) (by decide)
  refine o_go st3 ?_
  refine xd X3 B d20_3 rfl ?_
  refine xa X3 B d20_4 rfl rfl ?_
  have f5 := (j0.ext E3)
  have f6 := (j1.ext E3)
  have f7 := (j2.ext E3)
  have f8 := (j3.ext E3)
  have f9 := (j4.ext E3)
  have f10 := (j5.ext E3)
  have f11 := (j6.ext E3)
  refine o_csp (a := b3) X3 B H e3 (o_rm21_s5 (n0 := n0) hw (by omega) b3 a_1 ob0 fa_ob0 (.int 0) .null f5 A3 f6 F_coder_b3 F_value_b3 f7 f8 f9 f10 f11 (o_ne (by omega)) (o_ne (by omega)) (by omega)) (o_h hw 128 rfl) (o_h hw 129 rfl) (o_w2 hw) (o_h hw 130 rfl) rfl rfl (lenOf o_pd29 rfl) rfl rfl (W := 1) rfl d20_5 (by decide) ?_
  rintro _ T12 L12 X12 ⟨x_13, rfl, N12q, K12q, f14, f15, f16, f17, f18⟩
  have N12 := Fr.app N0 N12q
  have z19 := K12q.1
  have K12 := K3.trans K12q (allS (Or.inr (by omega)) all0)
  have z20 := o_lt f14.lt
  have z21 := o_lt f17.lt
  exact o_retA X12 B hret rfl rfl rfl d20_8 (by decide) rfl ⟨b3, x_13, rfl, N12, K12, f14, f15, f16, f17, (by omega), (by omega), (by simp only [o_lts, and_true]; omega)⟩
theorem o_ef_own_rm4_k3U (m : MethodId) (x0 : Addr) : entryFrame m #[(.ref x0)] 1 = mkF m 0 #[.val (.ref x0)] [] := by first | (simp [entryFrame, mkF, argsToLocals, Value.category]; done) | rfl
def o_Q4_k3U (Z : State) (a_1 : Addr) (oq : Addr) (fq : Nat → Int32) (h0 : Heap) (n0 : Nat) (v : Option Value) (h : Heap) (L : List Loc) : Prop := ∃ (x_0 : Addr) (x_1 : Addr) (x_2 : Addr), v = some (.ref x_0) ∧ Fr n0 L ∧ Keep h0 h [] ∧ o_E13 Z h x_0 ∧ o_F3 Z h x_0 .null ∧ o_F6 Z h x_0 (.ref x_1) ∧ o_F7 Z h x_0 (.ref (o_iq Z)) ∧ o_F4 Z h x_0 .null ∧ o_F5 Z h x_0 .null ∧ o_E0 Z h x_1 ∧ o_F1 Z h x_1 (.int 1) ∧ o_F2 Z h x_1 (.ref x_2) ∧ o_AV Z h x_2 .byte (132 : Int32) (o_by (o_cpi (o_inf (o_ls [46]) 65 (o_cpi fq 0 (o_inf (o_cpi (o_cpi (o_ls o_T62) 0 (o_cpi (fun _ => 0) 0 (fun _ => 0) 0 16) 0 62) 0 (fun _ => 0) 0 62) 0 (fun _ => 0) 62) 124 6) 1) 0 (fun _ => 0) 0 132)) ∧ (h0.size ≤ x_0) ∧ (h0.size ≤ x_1) ∧ (h0.size ≤ x_2) ∧ (o_lts [x_0, x_1, x_2])
theorem o_rm4_k3U (l : Launch) (Z : State) (a0 : Array Value) (hw : ∀ d ∈ tables_1, d.before a0 Z = true) (ws : List Jvm.Cond) (a_1 : Addr) (oq : Addr) (fq : Nat → Int32) (h0 : Heap) (n0 : Nat) (Z0 : n0 ≤ h0.size) (j0 : o_G Z h0) (j1 : o_E0 Z h0 a_1) (j2 : o_F2 Z h0 a_1 (.ref oq)) (j3 : o_F1 Z h0 a_1 (.int 1)) (j4 : o_AV Z h0 oq .byte (6 : Int32) (o_by fq)) (hg_n0 : n0 = h0.size) (hold : o_old Z h0) :
    MetFree l (⟨"com/example/orderly_storefront/orderlystorefront/cart/CartException", "invalidQuantity", "(Ljava/lang/String;)Lcom/example/orderly_storefront/orderlystorefront/cart/CartException;"⟩ : MethodName) (head1 (Jvm.Cond.code (⟨"com/example/orderly_storefront/orderlystorefront/cart/CartException", "invalidQuantity", "(Ljava/lang/String;)Lcom/example/orderly_storefront/orderlystorefront/cart/CartException;"⟩ : MethodName) prog_5_method_2_code 1 (some (.object "com/example/orderly_storefront/orderlystorefront/cart/CartException")) :: ws) ({ frames := 10, cells := 12, slots := 863, locals := 146 } : Room)) (fun a U => a = #[(.ref a_1)] ∧ Z.Warmed39 U.vm ∧ U.heap = h0 ∧ (fun vm : Vm => Jvm.ConstHeldL (Z.setVm vm) "com/example/orderly_storefront/orderlystorefront/cart/CartException" 25 ∧ Jvm.ConstHeldL (Z.setVm vm) "com/example/orderly_storefront/orderlystorefront/cart/CartException" 31 ∧ Jvm.ConstHeldL (Z.setVm vm) "com/example/orderly_storefront/orderlystorefront/cart/CartExceptionInvalidQuantityPinLaw" 28) U.vm) (fun _ _ _ _ _ => True) (fun _ U o U' => ∃ v L, o = .returned v ∧ (o_Q4_k3U Z a_1 oq fq h0 n0 v U'.heap L ∧ (fun vm : Vm => Jvm.ConstHeldL (Z.setVm vm) "com/example/orderly_storefront/orderlystorefront/cart/CartExceptionInvalidQuantityPinLaw" 28) U'.vm) ∧ ReturnedEndW U o U' L ({ frames := 10, cells := 12, slots := 863, locals := 146 } : Room).cells ({ frames := 10, cells := 12, slots := 863, locals := 146 } : Room).slots) := by
  refine MetFree.of_bodySF (plainFor_of_name o_pn9) hisR ?_
  intro p e s m args below meth c s₁ Bd hml0 hP hK
  obtain ⟨rfl, hZ, hh, ⟨hp0, hp1, hp2⟩⟩ := hP
  have hx := Bd.exec
  have hby := Bd.bytes
  have hml : c.maxLocals = 1 := hml0
  have hown : s.vm.findClass "com/example/orderly_storefront/orderlystorefront/cart/CartException" = some m.cls := findClass_of_methodNamed Bd.named
  have hnm := (name_of_methodNamed Bd.named Bd.method).1
  have X0 : Stand p l e ({ frames := 10, cells := 12, slots := 863, locals := 146 } : Room) s m #[(.ref a_1)] below meth c s₁ [] 0 0 := Stand.of_body Bd
  have e0 : s₁.heap = h0 := by rw [← hh, Bd.state]; rfl
  have N0 := Fr.nil n0
  have B : o_C p c _ := ⟨hx, hby⟩
  have H : o_H s Z m _ c _ := ⟨hZ, hown, hml⟩
  have X0 : Stand p l e ({ frames := 10, cells := 12, slots := 863, locals := 146 } : Room) (s.setVm s.vm) m #[(.ref a_1)] below meth c s₁ [] 0 0 := X0
  have hZ : Z.Warmed39 (s.setVm s.vm).vm := hZ
  have hown : (s.setVm s.vm).vm.findClass "com/example/orderly_storefront/orderlystorefront/cart/CartException" = some m.cls := hown
  have hS0 : s.Since s.vm 0 := (State.WarmedH.refl s).since 0
  have H : o_H _ Z m _ c _ := ⟨hZ, hown, hml⟩
  have z0 : n0 ≤ h0.size := Z0
  have z1 := o_lt j1.lt
  have z2 := o_lt j4.lt
  have K0 : Keep h0 h0 [] := Keep.refl h0 _
  show o_Go p.tables e below (fun t o => t.status = .running ∧ Ended t below o ∧ ∃ v L, o = .returned v ∧ (o_Q4_k3U Z a_1 oq fq h0 n0 v t.heap L ∧ (fun vm : Vm => Jvm.ConstHeldL (Z.setVm vm) "com/example/orderly_storefront/orderlystorefront/cart/CartExceptionInvalidQuantityPinLaw" 28) t.vm) ∧ ReturnedEndW s o t L ({ frames := 10, cells := 12, slots := 863, locals := 146 } : Room).cells ({ frames := 10, cells := 12, slots := 863, locals := 146 } : Room).slots) s₁ (entryFrame m #[(.ref a_1)] 1)
  rw [o_ef_own_rm4_k3U m a_1]
  show o_Go _ _ _ _ s₁ (mkF m 0 #[.val (.ref a_1)] [])
  obtain ⟨T3, h3, X3, e3, E3, A3, D3, Y3, st3⟩ := newO X0 hx hZ hown (o_h hw 26 rfl) (o_w27 hw) (o_w24 hw) e0 (g := (mkF m 0 #[.val (.ref a_1)] [])) rfl (hb hby d4_0) (by decide) (by decide)
  obtain ⟨b3, g3⟩ : ∃ z, z = h0.size := ⟨_, rfl⟩
  rw [← g3] at A3 D3 Y3 st3
  have z4 := E3.1
  have lt_b3 := o_lt A3.lt
  have K3 := K0.ext E3
  have F_cause_b3 : o_F3 Z h3 b3 .null := D3 (Or.inl (o_w177 hw)) (ty := (.object "java/lang/Throwable")) (by decide)
  have F_stackTrace_b3 : o_F4 Z h3 b3 .null := D3 (Or.inl (o_w180 hw)) (ty := (.array (.object "java/lang/StackTraceElement"))) (by decide)
  have F_suppressedExceptions_b3 : o_F5 Z h3 b3 .null := D3 (Or.inl (o_w183 hw)) (ty := (.object "java/util/List")) (by decide)
  have F_detailMessage_b3 : o_F6 Z h3 b3 .null := D3 (Or.inl (o_w185 hw)) (ty := (.object "java/lang/String")) (by decide)
  have F_reason_b3 : o_F7 Z h3 b3 .null := D3 (Or.inr (o_w187 hw)) (ty := (.object "com/example/orderly_storefront/orderlystorefront/cart/CartException$Reason")) (by decide)
  refine o_go st3 ?_
  refine xd X3 B d4_3 rfl ?_
  have f5 := (j0.ext E3)
  refine o_gs X3 B H (o_h hw 28 rfl) e3 f5.2.2.2.2.2.2.2.1 d4_4 fun T6 X6 e6 => ?_
  obtain ⟨T7, h7, X7, e7, E7, A7, D7, Y7, st7⟩ := newO X6 hx hZ hown (o_h hw 31 rfl) (o_w32 hw) (o_w33 hw) e6 (g := (mkF m 7 #[.val (.ref a_1)] [(.ref (o_iq Z)), (.ref b3), (.ref b3)])) rfl (hb hby d4_7) (by decide) (by decide)
  obtain ⟨b7, g7⟩ : ∃ z, z = h3.size := ⟨_, rfl⟩
  rw [← g7] at A7 D7 Y7 st7
  have z8 := E7.1
  have lt_b7 := o_lt A7.lt
  have K7 := K3.ext E7
  have F_value_b7 : o_F8 Z h7 b7 .null := D7 (Or.inl (o_w46 hw)) (ty := (.array .byte)) (by decide)
  have F_coder_b7 : o_F9 Z h7 b7 (.int 0) := D7 (Or.inl (o_w48 hw)) (ty := .byte) (by decide)
  have F_count_b7 : o_F10 Z h7 b7 (.int 0) := D7 (Or.inl (o_w72 hw)) (ty := .int) (by decide)
  have F_maybeLatin1_b7 : o_F11 Z h7 b7 (.int 0) := D7 (Or.inl (o_w269 hw)) (ty := .boolean) (by decide)
  refine o_go st7 ?_
  refine xd X7 B d4_10 rfl ?_
  have f9 := (f5.ext E7)
  refine o_csp (a := b7) X7 B H e7 (o_rm5_s1 (n0 := n0) hw (by omega) b7 (.int 0) (.int 0) (.int 0) .null A7 F_coder_b7 F_count_b7 F_maybeLatin1_b7 F_value_b7 f9 (by omega)) (o_h hw 34 rfl) (o_h hw 35 rfl) (o_w33 hw) (o_h hw 36 rfl) rfl rfl (lenOf o_pd13 rfl) rfl rfl (W := 4) rfl d4_11 (by decide) ?_
  rintro _ T10 L10 X10 ⟨x_11, rfl, N10q, K10q, f12, f13, f14, f15, f16, f17, f18⟩
  have N10 := Fr.app N0 N10q
  have z19 := K10q.1
  have K10 := K7.trans K10q (allS (Or.inr (by omega)) all0)
  have z20 := o_lt f12.lt
  have z21 := o_lt f17.lt
  have hZ22 := hZ
  obtain ⟨b22, c22, T22, h22, k22, X22, e22, E22, hS22, g22, hZ, hown, Li22, Wn22, Hi22, Ex22, Fv22, Fc22, Av22, sp22, st22⟩ := o_ldcC X10 hx hZ hown (o_w49 hw) (o_wS hw) (o_w16 hw) (o_w17 hw) rfl hS0 (by omega) N10 (Or.inl (by rw [hh]; exact Nat.le_of_eq hg_n0.symm)) hp0 (by rw [hh]; exact hold) (bs := o_T62) (z := (62 : Int32)) (by decide +kernel) (fun _ q => o_lb62 q) (by decide +kernel) (by decide) (by decide) (g := (mkF m 14 #[.val (.ref a_1)] [(.ref b7), (.ref (o_iq Z)), (.ref b3), (.ref b3)])) rfl (hb hby d4_14) (n := 248) (by decide +kernel) (by decide) (by decide) (by decide)
  have z23 := E22.1
  rw [hh] at sp22; unfold o_sep at sp22
  have N22 := Fr.nil n0
  have H : o_H _ Z m _ c _ := ⟨hZ, hown, hml⟩
  have Hh24 := o_carry (s := s) hZ22 (o_w121 hw) Wn22 (o_hint (by decide) Hi22) hp1
  have Hh25 := o_carry (s := s) hZ22 (o_w194 hw) Wn22 (o_hint (by decide) Hi22) hp2
  have z26 := o_lt Ex22.lt
  have z27 := o_lt Av22.lt
  have K22 := K10.ext E22
  refine o_go st22 ?_
  have f28 := (f17.ext E22)
  have f29 := (f12.ext E22)
  have f30 := (f13.ext E22)
  have f31 := (f14.ext E22)
  have f32 := (f15.ext E22)
  have f33 := (f16.ext E22)
  have f34 := ((f9.keep K10q (allS (o_exa_plain A7) all0)).ext E22)
  refine o_cvi X22 B H e22 (o_rm7_s1 (n0 := n0) hw (by omega) b7 b22 x_11 c22 (fun _ => 0) (o_ls o_T62) (.int 0) f28 Av22 f29 Ex22 f30 f31 f32 f33 Fc22 Fv22 f34 (o_ne (by omega)) (o_ne (by omega)) (o_ne (by omega)) (by omega)) (o_w50 hw) (o_w52 hw) (o_w33 hw) (o_w54 hw) (o_w51 hw) (o_w53 hw) (o_w53 hw) rfl f29 rfl (lenOf o_pd23 rfl) rfl rfl (W := 3) rfl d4_16 (by decide) ?_
  rintro _ T35 L35 X35 ⟨x_36, rfl, N35q, K35q, f37, f38, f39, f40, f41, f42, f43⟩
  have N35 := Fr.app N22 N35q
  have z44 := K35q.1
  have K35 := K22.trans K35q (allS (Or.inr (by omega)) all0)
  have z45 := o_lt f37.lt
  have z46 := o_lt f42.lt
  refine xa X35 B d4_19 rfl rfl ?_
  have f47 := (((((j4.ext E3).ext E7).keep K10q (ninS (o_ne (by omega)) nin0)).ext E22).keep K35q (ninS (o_ne (by omega)) nin0))
  have f48 := (((((j1.ext E3).ext E7).keep K10q).ext E22).keep K35q)
  have f49 := (((((j3.ext E3).ext E7).keep K10q (ninS (o_ne (by omega)) nin0)).ext E22).keep K35q (ninS (o_ne (by omega)) nin0))
  have f50 := (((((j2.ext E3).ext E7).keep K10q (ninS (o_ne (by omega)) nin0)).ext E22).keep K35q (ninS (o_ne (by omega)) nin0))
  have f51 := (f34.keep K35q (allS (o_exa_plain f29) all0))
  refine o_cvi X35 B H rfl (o_rm7_s9 (n0 := n0) hw (by omega) b7 a_1 x_36 oq (o_cpi (o_ls o_T62) 0 (o_cpi (fun _ => 0) 0 (fun _ => 0) 0 16) 0 62) fq (.int 0) f42 f47 f37 f48 f38 f39 f40 f41 f49 f50 f51 (o_ne (by omega)) (o_ne (by omega)) (o_ne (by omega)) (by omega)) (o_w50 hw) (o_w52 hw) (o_w33 hw) (o_w54 hw) (o_w51 hw) (o_w53 hw) (o_w53 hw) rfl f37 rfl (lenOf o_pd23 rfl) rfl rfl (W := 3) rfl d4_20 (by decide) ?_
  rintro _ T52 L52 X52 ⟨x_53, rfl, N52q, K52q, f54, f55, f56, f57, f58, f59, f60⟩
  have N52 := Fr.app N35 N52q
  have z61 := K52q.1
  have K52 := K35.trans K52q (allS (Or.inr (by omega)) all0)
  have z62 := o_lt f54.lt
  have z63 := o_lt f59.lt
  have hZ64 := hZ
  obtain ⟨b64, c64, T64, h64, k64, X64, e64, E64, hS64, g64, hZ, hown, Li64, Wn64, Hi64, Ex64, Fv64, Fc64, Av64, sp64, st64⟩ := o_ldcC X52 hx hZ hown (o_w121 hw) (o_wS hw) (o_w16 hw) (o_w17 hw) rfl hS22 (by omega) N52 (Or.inl (by rw [hh]; exact Nat.le_of_eq hg_n0.symm)) Hh24 (by rw [hh]; exact hold) (bs := [46]) (z := (1 : Int32)) (by decide +kernel) (fun _ q => o_lb1 q) (by decide +kernel) (by decide) (by decide) (g := (mkF m 23 #[.val (.ref a_1)] [(.ref b7), (.ref (o_iq Z)), (.ref b3), (.ref b3)])) rfl (hb hby d4_23) (n := 4) (by decide +kernel) (by decide) (by decide) (by decide)
  have z65 := E64.1
  rw [hh] at sp64; unfold o_sep at sp64
  have N64 := Fr.nil n0
  have H : o_H _ Z m _ c _ := ⟨hZ, hown, hml⟩
  have Li66 := Li22.stays Wn64
  have Hh67 := o_carry (s := s) hZ64 (o_w194 hw) Wn64 (o_hint (by decide) Hi64) Hh25
  have z68 := o_lt Ex64.lt
  have z69 := o_lt Av64.lt
  have K64 := K52.ext E64
  refine o_go st64 ?_
  have f70 := (f59.ext E64)
  have f71 := (f54.ext E64)
  have f72 := (f55.ext E64)
  have f73 := (f56.ext E64)
  have f74 := (f57.ext E64)
  have f75 := (f58.ext E64)
  have f76 := ((f51.keep K52q (allS (o_exa_plain f37) all0)).ext E64)
  refine o_cvi X64 B H e64 (o_rm7_s10 (n0 := n0) hw (by omega) b7 b64 x_53 c64 (o_cpi fq 0 (o_inf (o_cpi (o_cpi (o_ls o_T62) 0 (o_cpi (fun _ => 0) 0 (fun _ => 0) 0 16) 0 62) 0 (fun _ => 0) 0 62) 0 (fun _ => 0) 62) 124 6) (o_ls [46]) (.int 0) f70 Av64 f71 Ex64 f72 f73 f74 f75 Fc64 Fv64 f76 (o_ne (by omega)) (o_ne (by omega)) (o_ne (by omega)) (o_ne (by omega)) (o_ne (by omega)) (by omega) (by omega)) (o_w50 hw) (o_w52 hw) (o_w33 hw) (o_w54 hw) (o_w51 hw) (o_w53 hw) (o_w53 hw) rfl f71 rfl (lenOf o_pd23 rfl) rfl rfl (W := 3) rfl d4_25 (by decide) ?_
  rintro _ T77 L77 X77 ⟨rfl, N77q, K77q, f78, f79, f80, f81, f82, f83⟩
  have N77 := Fr.app N64 N77q
  have z84 := K77q.1
  have K77 := K64.trans K77q (allS (Or.inr (by omega)) (allS (Or.inr (by omega)) all0))
  have z85 := o_lt f78.lt
  have z86 := o_lt f79.lt
  have f87 := (f76.keep K77q (allS (o_AV.plain f70) (allS (o_exa_plain f71) all0)))
  refine o_cvi X77 B H rfl (o_rm20_s5 (n0 := n0) hw (by omega) b7 x_53 (o_inf (o_ls [46]) 65 (o_cpi fq 0 (o_inf (o_cpi (o_cpi (o_ls o_T62) 0 (o_cpi (fun _ => 0) 0 (fun _ => 0) 0 16) 0 62) 0 (fun _ => 0) 0 62) 0 (fun _ => 0) 62) 124 6) 1) f78 f79 f80 f81 f82 f83 f87) (o_h hw 122 rfl) (o_h hw 124 rfl) (o_w33 hw) (o_h hw 126 rfl) (o_h hw 123 rfl) (o_h hw 125 rfl) (o_h hw 125 rfl) rfl f79 rfl (lenOf o_pd30 rfl) rfl rfl (W := 3) rfl d4_28 (by decide) ?_
  rintro _ T88 L88 X88 ⟨x_89, x_90, rfl, N88q, K88q, f91, f92, f93, f94, f95, f96, f97⟩
  have N88 := Fr.app N77 N88q
  have z98 := K88q.1
  have K88 := K77.trans K88q all0
  have z99 := o_lt f91.lt
  have z100 := o_lt f94.lt
  simp only [o_lts, and_true] at f97
  have f101 := ((((((((A3.ext E7).keep K10q).ext E22).keep K35q).keep K52q).ext E64).keep K77q).keep K88q)
  have f102 := ((((((((F_cause_b3.ext E7).keep K10q (ninS (o_ne (by omega)) nin0)).ext E22).keep K35q (ninS (o_ne (by omega)) nin0)).keep K52q (ninS (o_ne (by omega)) nin0)).ext E64).keep K77q (ninS (o_ne (by omega)) (ninS (o_ne (by omega)) nin0))).keep K88q nin0)
  have f103 := ((((((((F_detailMessage_b3.ext E7).keep K10q (ninS (o_ne (by omega)) nin0)).ext E22).keep K35q (ninS (o_ne (by omega)) nin0)).keep K52q (ninS (o_ne (by omega)) nin0)).ext E64).keep K77q (ninS (o_ne (by omega)) (ninS (o_ne (by omega)) nin0))).keep K88q nin0)
  have f104 := ((((((((F_reason_b3.ext E7).keep K10q (ninS (o_ne (by omega)) nin0)).ext E22).keep K35q (ninS (o_ne (by omega)) nin0)).keep K52q (ninS (o_ne (by omega)) nin0)).ext E64).keep K77q (ninS (o_ne (by omega)) (ninS (o_ne (by omega)) nin0))).keep K88q nin0)
  have f105 := ((((((((F_stackTrace_b3.ext E7).keep K10q (ninS (o_ne (by omega)) nin0)).ext E22).keep K35q (ninS (o_ne (by omega)) nin0)).keep K52q (ninS (o_ne (by omega)) nin0)).ext E64).keep K77q (ninS (o_ne (by omega)) (ninS (o_ne (by omega)) nin0))).keep K88q nin0)
  have f106 := ((((((((F_suppressedExceptions_b3.ext E7).keep K10q (ninS (o_ne (by omega)) nin0)).ext E22).keep K35q (ninS (o_ne (by omega)) nin0)).keep K52q (ninS (o_ne (by omega)) nin0)).ext E64).keep K77q (ninS (o_ne (by omega)) (ninS (o_ne (by omega)) nin0))).keep K88q nin0)
  have f107 := (f87.keep K88q all0)
  refine o_csp (a := b3) X88 B H rfl (o_rm30_s1 (n0 := n0) hw (by omega) b3 (o_iq Z) x_89 .null .null .null .null .null f101 f102 f103 f104 f105 f106 f107 (by omega)) (o_h hw 161 rfl) (o_h hw 162 rfl) (o_w24 hw) (o_h hw 163 rfl) rfl rfl (lenOf o_pd32 rfl) rfl rfl (W := 1) rfl d4_31 (by decide) ?_
  rintro _ T108 L108 X108 ⟨rfl, N108q, K108q, f109, f110, f111, f112, f113, f114⟩
  have N108 := Fr.app N88 N108q
  have z115 := K108q.1
  have K108 := K88.trans K108q (allS (Or.inr (by omega)) all0)
  have z116 := o_lt f109.lt
  obtain ⟨fs, hr, hrun, hended, hRW⟩ := X108.leaveW hS64 (by omega) (v := some (.ref b3)) (fun h => by rw [Bd.returns] at h; cases h)
  refine ⟨_, _, retOut X108 hx Bd.returns rfl (Or.inr (Or.inr (Or.inr (Or.inr ⟨rfl, rfl, rfl⟩)))) (hb hby d4_34) hr, hrun, hended, _, _, rfl, ?_, o_monoW hRW (by decide) (by decide)⟩
  refine ⟨?_, o_carryH hZ (o_w194 hw) X108.warmed Hh67⟩
  have f118 := (f91.keep K108q)
  have f119 := (f92.keep K108q (ninS (o_ne (by omega)) nin0))
  have f120 := (f93.keep K108q (ninS (o_ne (by omega)) nin0))
  have f121 := (f94.keep K108q (ninS (o_ne (by omega)) nin0))
  exact ⟨b3, x_89, x_90, rfl, N108, K108, f109, f110, f111, f112, f113, f114, f118, f119, f120, f121, (by omega), (by omega), (by omega), (by simp only [o_lts, and_true]; omega)⟩
theorem d33_0 : decode prog_5_method_3_code 0 = .ok (.aload_n 0, 1) := by decide +kernel
theorem d33_1 : decode prog_5_method_3_code 1 = .ok (.getfield 7, 3) := by decide +kernel
theorem d33_4 : decode prog_5_method_3_code 4 = .ok (.areturn, 1) := by decide +kernel
theorem o_rm33_s1 (hw : o_T Z a0) (Z0 : n0 ≤ h0.size) (a_1 ob0 : Addr) (j0 : o_F7 Z h0 a_1 (.ref ob0)) :
    M33' l Z (o_rm 0 0 0 0) #[(.ref a_1)] h0 (fun v h L => v = some (.ref ob0) ∧ Fr n0 L ∧ h = h0) := by
  refine o_start (plainFor_of_name o_pn9) (L0 := #[.val (.ref a_1)]) (fun _ => rfl) fun p e s m below meth c s₁ hx hby hml hown hnm hret hZ X0 e0 B H => ?_
  have N0 := Fr.nil n0
  have z0 : n0 ≤ h0.size := Z0
  have z1 := o_lt j0.lt
  refine xa X0 B d33_0 rfl rfl ?_
  refine o_gf X0 B H (o_h hw 186 rfl) e0 j0 d33_1 fun T2 X2 e2 => ?_
  exact o_retA X2 B hret rfl rfl rfl d33_4 (by decide) e2 ⟨rfl, N0, rfl⟩
theorem d34_0 : decode jdk_78_method_6_code 0 = .ok (.aload_n 0, 1) := by decide +kernel
theorem d34_1 : decode jdk_78_method_6_code 1 = .ok (.getfield 31, 3) := by decide +kernel
theorem d34_4 : decode jdk_78_method_6_code 4 = .ok (.areturn, 1) := by decide +kernel
theorem o_rm34_s1 (hw : o_T Z a0) (Z0 : n0 ≤ h0.size) (a_1 ob0 : Addr) (j0 : o_F6 Z h0 a_1 (.ref ob0)) :
    M34' l Z (o_rm 0 0 0 0) #[(.ref a_1)] h0 (fun v h L => v = some (.ref ob0) ∧ Fr n0 L ∧ h = h0) := by
  refine o_start (plainFor_of_name o_pn7) (L0 := #[.val (.ref a_1)]) (fun _ => rfl) fun p e s m below meth c s₁ hx hby hml hown hnm hret hZ X0 e0 B H => ?_
  have N0 := Fr.nil n0
  have z0 : n0 ≤ h0.size := Z0
  have z1 := o_lt j0.lt
  refine xa X0 B d34_0 rfl rfl ?_
  refine o_gf X0 B H (o_h hw 184 rfl) e0 j0 d34_1 fun T2 X2 e2 => ?_
  exact o_retA X2 B hret rfl rfl rfl d34_4 (by decide) e2 ⟨rfl, N0, rfl⟩
set_option maxRecDepth 65536 in
theorem o_heq_k0 (c1 c2 c3 : Int32) : ∀ i, i < 63 → (o_by (o_ls (o_T62 ++ [46]))) i = (o_by (o_cpi (o_cpi (o_ls [46]) 0 (o_cpi (o_cpi (o_ls []) 0 (o_cpi (o_ls o_T62) 0 (o_cpi (fun _ => 0) 0 (fun _ => 0) 0 16) 0 62) 62 0) 0 (fun _ => 0) 0 62) 62 1) 0 (fun _ => 0) 0 63)) i
  | 0, _ => rfl
  | 1, _ => rfl
  | 2, _ => rfl
  | 3, _ => rfl
  | 4, _ => rfl
  | 5, _ => rfl
  | 6, _ => rfl
  | 7, _ => rfl
  | 8, _ => rfl
  | 9, _ => rfl
  | 10, _ => rfl
  | 11, _ => rfl
  | 12, _ => rfl
  | 13, _ => rfl
  | 14, _ => rfl
  | 15, _ => rfl
  | 16, _ => rfl
  | 17, _ => rfl
  | 18, _ => rfl
  | 19, _ => rfl
  | 20, _ => rfl
  | 21, _ => rfl
  | 22, _ => rfl
  | 23, _ => rfl
  | 24, _ => rfl
  | 25, _ => rfl
  | 26, _ => rfl
  | 27, _ => rfl
  | 28, _ => rfl
  | 29, _ => rfl
  | 30, _ => rfl
  | 31, _ => rfl
  | 32, _ => rfl
  | 33, _ => rfl
  | 34, _ => rfl
  | 35, _ => rfl
  | 36, _ => rfl
  | 37, _ => rfl
  | 38, _ => rfl
  | 39, _ => rfl
  | 40, _ => rfl
  | 41, _ => rfl
  | 42, _ => rfl
  | 43, _ => rfl
  | 44, _ => rfl
  | 45, _ => rfl
  | 46, _ => rfl
  | 47, _ => rfl
  | 48, _ => rfl
  | 49, _ => rfl
  | 50, _ => rfl
  | 51, _ => rfl
  | 52, _ => rfl
  | 53, _ => rfl
  | 54, _ => rfl
  | 55, _ => rfl
  | 56, _ => rfl
  | 57, _ => rfl
  | 58, _ => rfl
  | 59, _ => rfl
  | 60, _ => rfl
  | 61, _ => rfl
  | 62, _ => rfl
  | n + 63, h => absurd h (by omega)
set_option maxRecDepth 65536 in
theorem o_heq_k1U (c1 c2 c3 : Int32) : ∀ i, i < 128 → (o_by (o_fill2 (o_ls (o_T62 ++ [c1, (46 : Int32)])) (fun _ => 0) 64)) i = (o_by (o_cpi (o_inf (o_ls [46]) 63 (o_cpi (o_pc (fun _ => 0) 0 c1) 0 (o_inf (o_cpi (o_cpi (o_ls o_T62) 0 (o_cpi (fun _ => 0) 0 (fun _ => 0) 0 16) 0 62) 0 (fun _ => 0) 0 62) 0 (fun _ => 0) 62) 124 2) 1) 0 (fun _ => 0) 0 128)) i
  | 0, _ => rfl
  | 1, _ => rfl
  | 2, _ => rfl
  | 3, _ => rfl
  | 4, _ => rfl
  | 5, _ => rfl
  | 6, _ => rfl
  | 7, _ => rfl
  | 8, _ => rfl
  | 9, _ => rfl
  | 10, _ => rfl
  | 11, _ => rfl
  | 12, _ => rfl
  | 13, _ => rfl
  | 14, _ => rfl
  | 15, _ => rfl
  | 16, _ => rfl
  | 17, _ => rfl
  | 18, _ => rfl
  | 19, _ => rfl
  | 20, _ => rfl
  | 21, _ => rfl
  | 22, _ => rfl
  | 23, _ => rfl
  | 24, _ => rfl
  | 25, _ => rfl
  | 26, _ => rfl
  | 27, _ => rfl
  | 28, _ => rfl
  | 29, _ => rfl
  | 30, _ => rfl
  | 31, _ => rfl
  | 32, _ => rfl
  | 33, _ => rfl
  | 34, _ => rfl
  | 35, _ => rfl
  | 36, _ => rfl
  | 37, _ => rfl
  | 38, _ => rfl
  | 39, _ => rfl
  | 40, _ => rfl
  | 41, _ => rfl
  | 42, _ => rfl
  | 43, _ => rfl
  | 44, _ => rfl
  | 45, _ => rfl
  | 46, _ => rfl
  | 47, _ => rfl
  | 48, _ => rfl
  | 49, _ => rfl
  | 50, _ => rfl
  | 51, _ => rfl
  | 52, _ => rfl
  | 53, _ => rfl
  | 54, _ => rfl
  | 55, _ => rfl
  | 56, _ => rfl
  | 57, _ => rfl
  | 58, _ => rfl
  | 59, _ => rfl
  | 60, _ => rfl
  | 61, _ => rfl
  | 62, _ => rfl
  | 63, _ => rfl
  | 64, _ => rfl
  | 65, _ => rfl
  | 66, _ => rfl
  | 67, _ => rfl
  | 68, _ => rfl
  | 69, _ => rfl
  | 70, _ => rfl
  | 71, _ => rfl
  | 72, _ => rfl
  | 73, _ => rfl
  | 74, _ => rfl
  | 75, _ => rfl
  | 76, _ => rfl
  | 77, _ => rfl
  | 78, _ => rfl
  | 79, _ => rfl
  | 80, _ => rfl
  | 81, _ => rfl
  | 82, _ => rfl
  | 83, _ => rfl
  | 84, _ => rfl
  | 85, _ => rfl
  | 86, _ => rfl
  | 87, _ => rfl
  | 88, _ => rfl
  | 89, _ => rfl
  | 90, _ => rfl
  | 91, _ => rfl
  | 92, _ => rfl
  | 93, _ => rfl
  | 94, _ => rfl
  | 95, _ => rfl
  | 96, _ => rfl
  | 97, _ => rfl
  | 98, _ => rfl
  | 99, _ => rfl
  | 100, _ => rfl
  | 101, _ => rfl
  | 102, _ => rfl
  | 103, _ => rfl
  | 104, _ => rfl
  | 105, _ => rfl
  | 106, _ => rfl
  | 107, _ => rfl
  | 108, _ => rfl
  | 109, _ => rfl
  | 110, _ => rfl
  | 111, _ => rfl
  | 112, _ => rfl
  | 113, _ => rfl
  | 114, _ => rfl
  | 115, _ => rfl
  | 116, _ => rfl
  | 117, _ => rfl
  | 118, _ => rfl
  | 119, _ => rfl
  | 120, _ => rfl
  | 121, _ => rfl
  | 122, _ => rfl
  | 123, _ => rfl
  | 124, _ => rfl
  | 125, _ => rfl
  | 126, _ => rfl
  | 127, _ => rfl
  | n + 128, h => absurd h (by omega)
set_option maxRecDepth 65536 in
theorem o_heq_k1L (c1 c2 c3 : Int32) : ∀ i, i < 64 → (o_by (o_fill (o_ls (o_T62 ++ [c1, (46 : Int32)])) (fun _ => 0) 64)) i = (o_by (o_cpi (o_cpi (o_ls [46]) 0 (o_cpi (o_ui (fun _ => 0) 0 c1) 0 (o_cpi (o_cpi (o_ls o_T62) 0 (o_cpi (fun _ => 0) 0 (fun _ => 0) 0 16) 0 62) 0 (fun _ => 0) 0 62) 62 1) 63 1) 0 (fun _ => 0) 0 64)) i
  | 0, _ => rfl
  | 1, _ => rfl
  | 2, _ => rfl
  | 3, _ => rfl
  | 4, _ => rfl
  | 5, _ => rfl
  | 6, _ => rfl
  | 7, _ => rfl
  | 8, _ => rfl
  | 9, _ => rfl
  | 10, _ => rfl
  | 11, _ => rfl
  | 12, _ => rfl
  | 13, _ => rfl
  | 14, _ => rfl
  | 15, _ => rfl
  | 16, _ => rfl
  | 17, _ => rfl
  | 18, _ => rfl
  | 19, _ => rfl
  | 20, _ => rfl
  | 21, _ => rfl
  | 22, _ => rfl
  | 23, _ => rfl
  | 24, _ => rfl
  | 25, _ => rfl
  | 26, _ => rfl
  | 27, _ => rfl
  | 28, _ => rfl
  | 29, _ => rfl
  | 30, _ => rfl
  | 31, _ => rfl
  | 32, _ => rfl
  | 33, _ => rfl
  | 34, _ => rfl
  | 35, _ => rfl
  | 36, _ => rfl
  | 37, _ => rfl
  | 38, _ => rfl
  | 39, _ => rfl
  | 40, _ => rfl
  | 41, _ => rfl
  | 42, _ => rfl
  | 43, _ => rfl
  | 44, _ => rfl
  | 45, _ => rfl
  | 46, _ => rfl
  | 47, _ => rfl
  | 48, _ => rfl
  | 49, _ => rfl
  | 50, _ => rfl
  | 51, _ => rfl
  | 52, _ => rfl
  | 53, _ => rfl
  | 54, _ => rfl
  | 55, _ => rfl
  | 56, _ => rfl
  | 57, _ => rfl
  | 58, _ => rfl
  | 59, _ => rfl
  | 60, _ => rfl
  | 61, _ => rfl
  | 62, _ => rfl
  | 63, _ => rfl
  | n + 64, h => absurd h (by omega)
set_option maxRecDepth 65536 in
theorem o_heq_k3U (c1 c2 c3 : Int32) : ∀ i, i < 132 → (o_by (o_fill2 (o_ls (o_T62 ++ [c1, c2, c3, (46 : Int32)])) (fun _ => 0) 66)) i = (o_by (o_cpi (o_inf (o_ls [46]) 65 (o_cpi (o_fill2 (o_ls [c1, c2, c3]) (fun _ => 0) 3) 0 (o_inf (o_cpi (o_cpi (o_ls o_T62) 0 (o_cpi (fun _ => 0) 0 (fun _ => 0) 0 16) 0 62) 0 (fun _ => 0) 0 62) 0 (fun _ => 0) 62) 124 6) 1) 0 (fun _ => 0) 0 132)) i
  | 0, _ => rfl
  | 1, _ => rfl
  | 2, _ => rfl
  | 3, _ => rfl
  | 4, _ => rfl
  | 5, _ => rfl
  | 6, _ => rfl
  | 7, _ => rfl
  | 8, _ => rfl
  | 9, _ => rfl
  | 10, _ => rfl
  | 11, _ => rfl
  | 12, _ => rfl
  | 13, _ => rfl
  | 14, _ => rfl
  | 15, _ => rfl
  | 16, _ => rfl
  | 17, _ => rfl
  | 18, _ => rfl
  | 19, _ => rfl
  | 20, _ => rfl
  | 21, _ => rfl
  | 22, _ => rfl
  | 23, _ => rfl
  | 24, _ => rfl
  | 25, _ => rfl
  | 26, _ => rfl
  | 27, _ => rfl
  | 28, _ => rfl
  | 29, _ => rfl
  | 30, _ => rfl
  | 31, _ => rfl
  | 32, _ => rfl
  | 33, _ => rfl
  | 34, _ => rfl
  | 35, _ => rfl
  | 36, _ => rfl
  | 37, _ => rfl
  | 38, _ => rfl
  | 39, _ => rfl
  | 40, _ => rfl
  | 41, _ => rfl
  | 42, _ => rfl
  | 43, _ => rfl
  | 44, _ => rfl
  | 45, _ => rfl
  | 46, _ => rfl
  | 47, _ => rfl
  | 48, _ => rfl
  | 49, _ => rfl
  | 50, _ => rfl
  | 51, _ => rfl
  | 52, _ => rfl
  | 53, _ => rfl
  | 54, _ => rfl
  | 55, _ => rfl
  | 56, _ => rfl
  | 57, _ => rfl
  | 58, _ => rfl
  | 59, _ => rfl
  | 60, _ => rfl
  | 61, _ => rfl
  | 62, _ => rfl
  | 63, _ => rfl
  | 64, _ => rfl
  | 65, _ => rfl
  | 66, _ => rfl
  | 67, _ => rfl
  | 68, _ => rfl
  | 69, _ => rfl
  | 70, _ => rfl
  | 71, _ => rfl
  | 72, _ => rfl
  | 73, _ => rfl
  | 74, _ => rfl
  | 75, _ => rfl
  | 76, _ => rfl
  | 77, _ => rfl
  | 78, _ => rfl
  | 79, _ => rfl
  | 80, _ => rfl
  | 81, _ => rfl
  | 82, _ => rfl
  | 83, _ => rfl
  | 84, _ => rfl
  | 85, _ => rfl
  | 86, _ => rfl
  | 87, _ => rfl
  | 88, _ => rfl
  | 89, _ => rfl
  | 90, _ => rfl
  | 91, _ => rfl
  | 92, _ => rfl
  | 93, _ => rfl
  | 94, _ => rfl
  | 95, _ => rfl
  | 96, _ => rfl
  | 97, _ => rfl
  | 98, _ => rfl
  | 99, _ => rfl
  | 100, _ => rfl
  | 101, _ => rfl
  | 102, _ => rfl
  | 103, _ => rfl
  | 104, _ => rfl
  | 105, _ => rfl
  | 106, _ => rfl
  | 107, _ => rfl
  | 108, _ => rfl
  | 109, _ => rfl
  | 110, _ => rfl
  | 111, _ => rfl
  | 112, _ => rfl
  | 113, _ => rfl
  | 114, _ => rfl
  | 115, _ => rfl
  | 116, _ => rfl
  | 117, _ => rfl
  | 118, _ => rfl
  | 119, _ => rfl
  | 120, _ => rfl
  | 121, _ => rfl
  | 122, _ => rfl
  | 123, _ => rfl
  | 124, _ => rfl
  | 125, _ => rfl
  | 126, _ => rfl
  | 127, _ => rfl
  | 128, _ => rfl
  | 129, _ => rfl
  | 130, _ => rfl
  | 131, _ => rfl
  | n + 132, h => absurd h (by omega)
set_option maxRecDepth 65536 in
theorem o_heq_k3L (c1 c2 c3 : Int32) : ∀ i, i < 66 → (o_by (o_fill (o_ls (o_T62 ++ [c1, c2, c3, (46 : Int32)])) (fun _ => 0) 66)) i = (o_by (o_cpi (o_cpi (o_ls [46]) 0 (o_cpi (o_fill (o_ls [c1, c2, c3]) (fun _ => 0) 3) 0 (o_cpi (o_cpi (o_ls o_T62) 0 (o_cpi (fun _ => 0) 0 (fun _ => 0) 0 16) 0 62) 0 (fun _ => 0) 0 62) 62 3) 65 1) 0 (fun _ => 0) 0 66)) i
  | 0, _ => rfl
  | 1, _ => rfl
  | 2, _ => rfl
  | 3, _ => rfl
  | 4, _ => rfl
  | 5, _ => rfl
  | 6, _ => rfl
  | 7, _ => rfl
  | 8, _ => rfl
  | 9, _ => rfl
  | 10, _ => rfl
  | 11, _ => rfl
  | 12, _ => rfl
  | 13, _ => rfl
  | 14, _ => rfl
  | 15, _ => rfl
  | 16, _ => rfl
  | 17, _ => rfl
  | 18, _ => rfl
  | 19, _ => rfl
  | 20, _ => rfl
  | 21, _ => rfl
  | 22, _ => rfl
  | 23, _ => rfl
  | 24, _ => rfl
  | 25, _ => rfl
  | 26, _ => rfl
  | 27, _ => rfl
  | 28, _ => rfl
  | 29, _ => rfl
  | 30, _ => rfl
  | 31, _ => rfl
  | 32, _ => rfl
  | 33, _ => rfl
  | 34, _ => rfl
  | 35, _ => rfl
  | 36, _ => rfl
  | 37, _ => rfl
  | 38, _ => rfl
  | 39, _ => rfl
  | 40, _ => rfl
  | 41, _ => rfl
  | 42, _ => rfl
  | 43, _ => rfl
  | 44, _ => rfl
  | 45, _ => rfl
  | 46, _ => rfl
  | 47, _ => rfl
  | 48, _ => rfl
  | 49, _ => rfl
  | 50, _ => rfl
  | 51, _ => rfl
  | 52, _ => rfl
  | 53, _ => rfl
  | 54, _ => rfl
  | 55, _ => rfl
  | 56, _ => rfl
  | 57, _ => rfl
  | 58, _ => rfl
  | 59, _ => rfl
  | 60, _ => rfl
  | 61, _ => rfl
  | 62, _ => rfl
  | 63, _ => rfl
  | 64, _ => rfl
  | 65, _ => rfl
  | n + 66, h => absurd h (by omega)
theorem o_ef_own_rm0 (m : MethodId) (x0 : Int32) (x1 : Int32) (x2 : Int32) (x3 : Int32) : entryFrame m #[(.int x0), (.int x1), (.int x2), (.int x3)] maxLocals = mkF m 0 #[.val (.int x0), .val (.int x1), .val (.int x2), .val (.int x3), .unset, .unset, .unset, .unset, .unset, .unset, .unset] [] := by first | (simp [entryFrame, mkF, argsToLocals, Value.category, maxLocals]; done) | rfl
def o_Q0 (Z : State) (p_1 : Int32) (p_2 : Int32) (p_3 : Int32) (p_4 : Int32) (h0 : Heap) (n0 : Nat) (v : Option Value) (h : Heap) (L : List Loc) : Prop := v = some (.int 1) ∧ Fr n0 L
theorem o_rm0 (l : Launch) (Z : State) (a0 : Array Value) (hw : ∀ d ∈ tables_1, d.before a0 Z = true) (ws : List Jvm.Cond) (p_1 : Int32) (p_2 : Int32) (p_3 : Int32) (p_4 : Int32) (h0 : Heap) (n0 : Nat) (Z0 : n0 ≤ h0.size) (j0 : o_G Z h0) (hg_n0 : n0 = h0.size) (hold : o_old Z h0) (hgz : Z.heap.size ≤ n0) :
    MetFree l x (head1 (Jvm.Cond.code x code maxLocals ret :: ws) room_1) (fun a U => a = #[(.int p_1), (.int p_2), (.int p_3), (.int p_4)] ∧ Z.Warmed39 U.vm ∧ U.heap = h0 ∧ (fun vm : Vm => Jvm.ConstHeldL (Z.setVm vm) "java/lang/String" 7 ∧ Jvm.ConstHeldL (Z.setVm vm) "com/example/orderly_storefront/orderlystorefront/cart/CartException" 25 ∧ Jvm.ConstHeldL (Z.setVm vm) "com/example/orderly_storefront/orderlystorefront/cart/CartException" 31 ∧ Jvm.ConstHeldL (Z.setVm vm) "com/example/orderly_storefront/orderlystorefront/cart/CartExceptionInvalidQuantityPinLaw" 28) U.vm) (fun _ _ _ _ _ => True) (fun _ U o U' => ∃ v L, o = .returned v ∧ (o_Q0 Z p_1 p_2 p_3 p_4 h0 n0 v U'.heap L ∧ (fun _ : Vm => True) U'.vm) ∧ ReturnedEndW U o U' L 20 1147) := by
  refine MetFree.of_bodySF (plainFor_of_name o_pn11) hisR ?_
  intro p e s m args below meth c s₁ Bd hml0 hP hK
  obtain ⟨rfl, hZ, hh, ⟨hp0, hp1, hp2, hp3⟩⟩ := hP
  have hx := Bd.exec
  have hby := Bd.bytes
  have hml : c.maxLocals = 11 := hml0
  have hown : s.vm.findClass "com/example/orderly_storefront/orderlystorefront/cart/CartExceptionInvalidQuantityPinLaw" = some m.cls := findClass_of_methodNamed Bd.named
  have hnm := (name_of_methodNamed Bd.named Bd.method).1
  have X0 : Stand p l e room_1 s m #[(.int p_1), (.int p_2), (.int p_3), (.int p_4)] below meth c s₁ [] 0 0 := Stand.of_body Bd
  have e0 : s₁.heap = h0 := by rw [← hh, Bd.state]; rfl
  have N0 := Fr.nil n0
  have B : o_C p c _ := ⟨hx, hby⟩
  have H : o_H s Z m _ c _ := ⟨hZ, hown, hml⟩
  have X0 : Stand p l e room_1 (s.setVm s.vm) m #[(.int p_1), (.int p_2), (.int p_3), (.int p_4)] below meth c s₁ [] 0 0 := X0
  have hZ : Z.Warmed39 (s.setVm s.vm).vm := hZ
  have hown : (s.setVm s.vm).vm.findClass "com/example/orderly_storefront/orderlystorefront/cart/CartExceptionInvalidQuantityPinLaw" = some m.cls := hown
  have hS0 : s.Since s.vm 0 := (State.WarmedH.refl s).since 0
  have H : o_H _ Z m _ c _ := ⟨hZ, hown, hml⟩
  have z0 : n0 ≤ h0.size := Z0
  have K0 : Keep h0 h0 [] := Keep.refl h0 _
  show o_Go p.tables e below (fun t o => t.status = .running ∧ Ended t below o ∧ ∃ v L, o = .returned v ∧ (o_Q0 Z p_1 p_2 p_3 p_4 h0 n0 v t.heap L ∧ (fun _ : Vm => True) t.vm) ∧ ReturnedEndW s o t L 20 1147) s₁ (entryFrame m #[(.int p_1), (.int p_2), (.int p_3), (.int p_4)] maxLocals)
  rw [o_ef_own_rm0 m p_1 p_2 p_3 p_4]
  show o_Go _ _ _ _ s₁ (mkF m 0 #[.val (.int p_1), .val (.int p_2), .val (.int p_3), .val (.int p_4), .unset, .unset, .unset, .unset, .unset, .unset, .unset] [])
  refine xi X0 B at_0 rfl ?_
  refine o_go (fun _ k => XS.i2c X0.here hx rfl (hb hby at_1) rfl k) ?_
  show o_Go _ _ _ _ s₁ (mkF m 2 #[.val (.int p_1), .val (.int p_2), .val (.int p_3), .val (.int p_4), .unset, .unset, .unset, .unset, .unset, .unset, .unset] [(.int (p_2.toUInt32.toUInt16.toUInt32.toInt32))])
  refine xS X0 B at_2 (l' := #[.val (.int p_1), .val (.int p_2), .val (.int p_3), .val (.int p_4), .val (.int (p_2.toUInt32.toUInt16.toUInt32.toInt32)), .unset, .unset, .unset, .unset, .unset, .unset]) rfl ?_
  refine xi X0 B at_4 rfl ?_
  refine o_go (fun _ k => XS.i2c X0.here hx rfl (hb hby at_5) rfl k) ?_
  show o_Go _ _ _ _ s₁ (mkF m 6 #[.val (.int p_1), .val (.int p_2), .val (.int p_3), .val (.int p_4), .val (.int (p_2.toUInt32.toUInt16.toUInt32.toInt32)), .unset, .unset, .unset, .unset, .unset, .unset] [(.int (p_3.toUInt32.toUInt16.toUInt32.toInt32))])
  refine xS X0 B at_6 (l' := #[.val (.int p_1), .val (.int p_2), .val (.int p_3), .val (.int p_4), .val (.int (p_2.toUInt32.toUInt16.toUInt32.toInt32)), .val (.int (p_3.toUInt32.toUInt16.toUInt32.toInt32)), .unset, .unset, .unset, .unset, .unset]) rfl ?_
  refine xi X0 B at_8 rfl ?_
  refine o_go (fun _ k => XS.i2c X0.here hx rfl (hb hby at_9) rfl k) ?_
  show o_Go _ _ _ _ s₁ (mkF m 10 #[.val (.int p_1), .val (.int p_2), .val (.int p_3), .val (.int p_4), .val (.int (p_2.toUInt32.toUInt16.toUInt32.toInt32)), .val (.int (p_3.toUInt32.toUInt16.toUInt32.toInt32)), .unset, .unset, .unset, .unset, .unset] [(.int (p_4.toUInt32.toUInt16.toUInt32.toInt32))])
  refine xS X0 B at_10 (l' := #[.val (.int p_1), .val (.int p_2), .val (.int p_3), .val (.int p_4), .val (.int (p_2.toUInt32.toUInt16.toUInt32.toInt32)), .val (.int (p_3.toUInt32.toUInt16.toUInt32.toInt32)), .val (.int (p_4.toUInt32.toUInt16.toUInt32.toInt32)), .unset, .unset, .unset, .unset]) rfl ?_
  generalize hdc1 : (p_2.toUInt32.toUInt16.toUInt32.toInt32) = c1
  have hch1 : c1.toUInt32.toUInt16.toUInt32.toInt32 = c1 := by rw [← hdc1]; exact o_i2c _
  generalize hdc2 : (p_3.toUInt32.toUInt16.toUInt32.toInt32) = c2
  have hch2 : c2.toUInt32.toUInt16.toUInt32.toInt32 = c2 := by rw [← hdc2]; exact o_i2c _
  generalize hdc3 : (p_4.toUInt32.toUInt16.toUInt32.toInt32) = c3
  have hch3 : c3.toUInt32.toUInt16.toUInt32.toInt32 = c3 := by rw [← hdc3]; exact o_i2c _
  show o_Go _ _ _ _ s₁ (mkF m 12 #[.val (.int p_1), .val (.int p_2), .val (.int p_3), .val (.int p_4), .val (.int c1), .val (.int c2), .val (.int c3), .unset, .unset, .unset, .unset] [])
  refine xi X0 B at_12 rfl ?_
  refine xc X0 B at_13 3 rfl ?_
  refine xand X0 B at_14 _ rfl ?_
  refine xS X0 B at_15 (l' := #[.val (.int p_1), .val (.int p_2), .val (.int p_3), .val (.int p_4), .val (.int c1), .val (.int c2), .val (.int c3), .val (.int (p_1 &&& (3 : Int32))), .unset, .unset, .unset]) rfl ?_
  generalize hdv1 : (p_1 &&& (3 : Int32)) = v1
  show o_Go _ _ _ _ s₁ (mkF m 17 #[.val (.int p_1), .val (.int p_2), .val (.int p_3), .val (.int p_4), .val (.int c1), .val (.int c2), .val (.int c3), .val (.int v1), .unset, .unset, .unset] [])
  refine xI X0 B at_17 rfl ?_
  by_cases hc2 : v1 = 0
  · refine xn X0 B at_19 (XT.i0_ne_f hc2) ?_
    obtain ⟨T3, h3, X3, e3, E3, A3, D3, Y3, st3⟩ := newO X0 hx hZ hown (o_w0 hw) (o_w1 hw) (o_w2 hw) e0 (g := (mkF m 22 #[.val (.int p_1), .val (.int p_2), .val (.int p_3), .val (.int p_4), .val (.int c1), .val (.int c2), .val (.int c3), .val (.int v1), .unset, .unset, .unset] [])) rfl (hb hby at_22) (by decide) (by decide)
    obtain ⟨b3, g3⟩ : ∃ z, z = h0.size := ⟨_, rfl⟩
    rw [← g3] at A3 D3 Y3 st3
    have z4 := E3.1
    have lt_b3 := o_lt A3.lt
    have K3 := K0.ext E3
    have F_value_b3 : o_F2 Z h3 b3 .null := D3 (Or.inr (o_w16 hw)) (ty := (.array .byte)) (by decide)
    have F_coder_b3 : o_F1 Z h3 b3 (.int 0) := D3 (Or.inr (o_w17 hw)) (ty := .byte) (by decide)
    refine o_go st3 ?_
    refine xd X3 B at_25 rfl ?_
    refine xc X3 B at_26 0 rfl ?_
    obtain ⟨T5, h5, k5, X5, e5, E5, A5, st5⟩ := newP X3 hx hZ (hw _ (List.mem_of_getElem? (i := 3) rfl)) e3 (g := (mkF m 27 #[.val (.int p_1), .val (.int p_2), .val (.int p_3), .val (.int p_4), .val (.int c1), .val (.int c2), .val (.int c3), .val (.int v1), .unset, .unset, .unset] [(.int 0), (.ref b3), (.ref b3)])) rfl (hb hby at_27) rfl (by decide) (cap := 0) (by decide) (by decide) (by decide) (by decide)
    obtain ⟨b5, g5⟩ : ∃ z, z = h3.size := ⟨_, rfl⟩
    rw [← g5] at A5 st5
    have z6 := E5.1
    have lt_b5 := o_lt A5.lt
    have K5 := K3.ext E5
    have V_b5 : o_AV Z h5 b5 .char (0 : Int32) (o_ch (o_ls (List.replicate 0 (0 : Int32)))) := o_AV.congr (o_AV.new A5 (by decide)) fun i _ => (o_rep 0 i).symm
    refine o_go st5 ?_
    have f7 := (A3.ext E5)
    have f8 := (F_value_b3.ext E5)
    have f9 := (F_coder_b3.ext E5)
    obtain ⟨_, _, ⟨T10, L10, k10, n10⟩, -, X10, hS10, gr10, ⟨Lc10, ⟨hQ10, hV10⟩, l10, y10, z10⟩, st10⟩ := X5.specialBackS hx (y := (⟨"java/lang/String", "<init>", "([C)V"⟩ : MethodName)) rfl hown (mvT hZ (o_h hw 4 rfl)) (mvT hZ (o_h hw 5 rfl)) (mvT hZ (o_h hw 6 rfl)) (by decide) (o_backC (PV := (fun vm : Vm => Jvm.ConstHeldL (Z.setVm vm) "java/lang/String" 7 ∧ Jvm.ConstHeldL (Z.setVm vm) "com/example/orderly_storefront/orderlystorefront/cart/CartException" 25 ∧ Jvm.ConstHeldL (Z.setVm vm) "com/example/orderly_storefront/orderlystorefront/cart/CartException" 31 ∧ Jvm.ConstHeldL (Z.setVm vm) "com/example/orderly_storefront/orderlystorefront/cart/CartExceptionInvalidQuantityPinLaw" 28)) (QV := (fun vm : Vm => Jvm.ConstHeldL (Z.setVm vm) "com/example/orderly_storefront/orderlystorefront/cart/CartException" 25 ∧ Jvm.ConstHeldL (Z.setVm vm) "com/example/orderly_storefront/orderlystorefront/cart/CartException" 31 ∧ Jvm.ConstHeldL (Z.setVm vm) "com/example/orderly_storefront/orderlystorefront/cart/CartExceptionInvalidQuantityPinLaw" 28)) (W := 1) (o_rm1_k0 l Z a0 hw [] b3 b5 (o_ls (List.replicate 0 (0 : Int32))) .null (.int 0) h5 n0 (by omega) f7 f8 f9 V_b5 (fun b c q => K5.2.1 b c (hold b c q) (by simp)) (by first | rfl | assumption) (o_ne (by omega)) (by omega)) hZ (o_h hw 6 rfl) (o_w2 hw) (by decide) (by decide) (fun _ q => ⟨o_carryH hZ (o_h hw 14 rfl) q hp0, o_carryH hZ (o_w49 hw) q hp1, o_carryH hZ (o_w121 hw) q hp2, o_carryH hZ (o_w194 hw) q hp3⟩)) (g := (mkF m 29 #[.val (.int p_1), .val (.int p_2), .val (.int p_3), .val (.int p_4), .val (.int c1), .val (.int c2), .val (.int c3), .val (.int v1), .unset, .unset, .unset] [(.ref b5), (.ref b3), (.ref b3)])) rfl (by rw [hml]; rfl) (Steps.refl _) (a := b3) (argsL := [(.ref b5)]) (rest := [(.ref b3)]) (lenOf o_pd37 rfl) rfl (by show 2 * 0 + _ ≤ _; exact Nat.le_of_eq rfl) (hb hby at_29) (fun _ _ => ⟨rfl, e5, (by decide : 2 + 2 ≤ _), (by decide : 4 + 4 ≤ _)⟩)
    dsimp only [Pt.U, Pt.locs, Pt.cells, Pt.slots] at X10 l10 y10 z10 st10 hQ10 hS10 gr10 hV10
    have y10 : k10 = 4 := y10
    have z10 : n10 = 8 := z10
    have Wn10 := hS10.1
    obtain ⟨X10, hS10, hZ, hown⟩ := rebS hS0 (n1 := T5.heap.size) (by rw [e5]; omega) X10 hS10 gr10 hZ hown
    have H : o_H _ Z m _ c _ := ⟨hZ, hown, hml⟩
    obtain ⟨Hh11, Hh12, Hh13⟩ := hV10
    subst y10
    subst z10
    obtain ⟨x_14, rfl, N10q, K10q, f15, f16, f17, f18⟩ := hQ10
    have N10 : Fr n0 L10 := by rw [l10]; exact Fr.app N0 N10q
    have z19 := K10q.1
    have K10 := K5.trans K10q (allS (Or.inr (by omega)) all0)
    have z20 := o_lt f15.lt
    have z21 := o_lt f18.lt
    refine o_go (fun _ k => st10.trans k) ?_
    have f22 := (((j0.ext E3).ext E5).keep K10q (allS (o_exa_plain f7) all0))
    obtain ⟨_, _, ⟨T23, L23, k23, n23⟩, -, X23, hS23, gr23, ⟨Lc23, ⟨hQ23, hV23⟩, l23, y23, z23⟩, st23⟩ := callSS X10 hx (y := (⟨"com/example/orderly_storefront/orderlystorefront/cart/CartException", "invalidQuantity", "(Ljava/lang/String;)Lcom/example/orderly_storefront/orderlystorefront/cart/CartException;"⟩ : MethodName)) hown (mvT hZ (o_h hw 22 rfl)) (mvT hZ (o_h hw 23 rfl)) (mvT hZ (o_w24 hw)) (mvT hZ (o_h hw 25 rfl)) (by decide) (o_backC (PV := (fun vm : Vm => Jvm.ConstHeldL (Z.setVm vm) "com/example/orderly_storefront/orderlystorefront/cart/CartException" 25 ∧ Jvm.ConstHeldL (Z.setVm vm) "com/example/orderly_storefront/orderlystorefront/cart/CartException" 31 ∧ Jvm.ConstHeldL (Z.setVm vm) "com/example/orderly_storefront/orderlystorefront/cart/CartExceptionInvalidQuantityPinLaw" 28)) (QV := (fun vm : Vm => Jvm.ConstHeldL (Z.setVm vm) "com/example/orderly_storefront/orderlystorefront/cart/CartExceptionInvalidQuantityPinLaw" 28)) (W := 0) (o_rm4_k0 l Z a0 hw [] b3 x_14 (o_ls []) T10.heap T10.heap.size (Nat.le_refl _) f22 f15 f16 f17 f18 (by first | rfl | assumption) (fun b c q => K10.2.1 b c (hold b c q) (by simp))) hZ (o_h hw 25 rfl) (o_w24 hw) (by decide) (by decide) (fun _ q => ⟨o_carryH hZ (o_w49 hw) q Hh11, o_carryH hZ (o_w121 hw) q Hh12, o_carryH hZ (o_w194 hw) q Hh13⟩)) (g := (mkF m 32 #[.val (.int p_1), .val (.int p_2), .val (.int p_3), .val (.int p_4), .val (.int c1), .val (.int c2), .val (.int c3), .val (.int v1), .unset, .unset, .unset] [(.ref b3)])) rfl (by rw [hml]; rfl) (argsL := [(.ref b3)]) (rest := []) (lenOf o_pd38 rfl) rfl (by show 2 * 0 + _ ≤ _; exact Nat.le_of_eq rfl) (hb hby at_32) (fun _ _ => ⟨rfl, rfl, (by decide : 4 + 11 ≤ _), (by decide : 8 + 542 ≤ _)⟩)
    dsimp only [Pt.U, Pt.locs, Pt.cells, Pt.slots] at X23 l23 y23 z23 st23 hQ23 hS23 gr23 hV23
    have y23 : k23 = 15 := y23
    have z23 : n23 = 550 := z23
    have Wn23 := hS23.1
    obtain ⟨X23, hS23, hZ, hown⟩ := rebS hS10 (n1 := T10.heap.size) (by omega) X23 hS23 gr23 hZ hown
    have H : o_H _ Z m _ c _ := ⟨hZ, hown, hml⟩
    have Hh24 := hV23
    subst y23
    subst z23
    obtain ⟨x_25, x_26, x_27, rfl, N23q, K23q, f28, f29, f30, f31, f32, f33, f34, f35, f36, f37, f38, f39, f40, f41⟩ := hQ23
    have N23 : Fr n0 L23 := by rw [l23]; exact Fr.app N10 (o_frmono N23q (by omega))
    have z42 := K23q.1
    have K23 := K10.trans K23q all0
    have z43 := o_lt f28.lt
    have z44 := o_lt f34.lt
    have z45 := o_lt f37.lt
    simp only [o_lts, and_true] at f41
    refine o_go (fun _ k => st23.trans k) ?_
    refine xT X23 B at_35 rfl (l' := #[.val (.int p_1), .val (.int p_2), .val (.int p_3), .val (.int p_4), .val (.int c1), .val (.int c2), .val (.int c3), .val (.int v1), .val (.ref x_25), .unset, .unset]) rfl ?_
    refine xA X23 B at_37 rfl rfl ?_
    refine o_cvi X23 B H rfl (o_rm33_s1 (n0 := n0) hw (by omega) x_25 (o_iq Z) f31) (o_h hw 188 rfl) (o_h hw 190 rfl) (o_w24 hw) (o_h hw 192 rfl) (o_h hw 189 rfl) (o_h hw 191 rfl) (o_h hw 191 rfl) rfl f28 rfl (lenOf o_pd39 rfl) rfl rfl (W := 0) rfl at_39 (by decide) ?_
    rintro _ T46 L46 X46 ⟨rfl, N46q, e46⟩
    have N46 := Fr.app N23 N46q
    have f47 := (f22.keep K23q all0)
    refine o_gs X46 B H (o_h hw 193 rfl) e46 f47.2.2.2.2.2.2.2.1 at_42 fun T48 X48 e48 => ?_
    refine o_go (fun _ k => Jvm.RoadKit.acmp (g := (mkF m 45 #[.val (.int p_1), .val (.int p_2), .val (.int p_3), .val (.int p_4), .val (.int c1), .val (.int c2), .val (.int c3), .val (.int v1), .val (.ref x_25), .unset, .unset] [(.ref (o_iq Z)), (.ref (o_iq Z))])) X48 hx rfl rfl rfl (pc0 := 45) (pc' := 48) (same := true) rfl (hb hby at_45) rfl (decide_eq_true rfl) (by decide) (by decide) k) ?_
    show o_Go _ _ _ _ T48 (mkF m 48 #[.val (.int p_1), .val (.int p_2), .val (.int p_3), .val (.int p_4), .val (.int c1), .val (.int c2), .val (.int c3), .val (.int v1), .val (.ref x_25), .unset, .unset] [])
    have hZ49 := hZ
    obtain ⟨b49, c49, T49, h49, k49, X49, e49, E49, hS49, g49, hZ, hown, Li49, Wn49, Hi49, Ex49, Fv49, Fc49, Av49, sp49, st49⟩ := o_ldcC X48 hx hZ hown (o_w194 hw) (o_wS hw) (o_w16 hw) (o_w17 hw) e48 hS23 (by omega) N46 (Or.inl (by rw [hh]; exact Nat.le_of_eq hg_n0.symm)) Hh24 (by rw [hh]; exact hold) (bs := (o_T62 ++ [46])) (z := (63 : Int32)) (by decide +kernel) (fun _ q => o_lb63 q) (by decide +kernel) (by decide) (by decide) (g := (mkF m 48 #[.val (.int p_1), .val (.int p_2), .val (.int p_3), .val (.int p_4), .val (.int c1), .val (.int c2), .val (.int c3), .val (.int v1), .val (.ref x_25), .unset, .unset] [])) rfl (hb hby at_48) (n := 252) (by decide +kernel) (by decide) (by decide) (by decide)
    have z50 := E49.1
    rw [hh] at sp49; unfold o_sep at sp49
    have N49 := Fr.nil n0
    have H : o_H _ Z m _ c _ := ⟨hZ, hown, hml⟩
    have z51 := o_lt Ex49.lt
    have z52 := o_lt Av49.lt
    have K49 := K23.ext E49
    refine o_go st49 ?_
    refine xA X49 B at_50 rfl rfl ?_
    have f53 := (f30.ext E49)
    have f55 := (f28.ext E49)
    refine o_cup X49 B H e49 (o_rm34_s1 (n0 := n0) hw (by omega) x_25 x_26 f53) (o_h hw 195 rfl) (o_h hw 198 rfl) (o_w173 hw) (o_h hw 200 rfl) (o_h hw 197 rfl) (o_h hw 199 rfl) (o_h hw 196 rfl) f55 rfl (lenOf o_pd30 rfl) rfl rfl (W := 1) rfl at_52 (by decide) ?_
    rintro _ T54 L54 X54 ⟨rfl, N54q, e54⟩
    have N54 := Fr.app N49 N54q
    have f56 := (f34.ext E49)
    have f57 := (f35.ext E49)
    have f58 := (f36.ext E49)
    have f59 := (f37.ext E49)
    have f60 := (f47.ext E49)
    refine o_cvi X54 B H e54 (o_rm35 (n0 := n0) hw (by omega) b49 x_26 (63 : Int32) (0 : Int32) c49 x_27 (o_ls (o_T62 ++ [46])) (o_cpi (o_cpi (o_ls [46]) 0 (o_cpi (o_cpi (o_ls []) 0 (o_cpi (o_ls o_T62) 0 (o_cpi (fun _ => 0) 0 (fun _ => 0) 0 16) 0 62) 62 0) 0 (fun _ => 0) 0 62) 62 1) 0 (fun _ => 0) 0 63) Ex49 f56 Fc49 f57 Fv49 f58 Av49 f59 f60 (fun i hi => o_heq_k0 c1 c2 c3 i (by rw [show ((63 : Int32)).toNatClampNeg = 63 by decide] at hi; exact hi)) (by decide) (o_ne (by omega))) (o_h hw 201 rfl) (o_h hw 203 rfl) (o_w2 hw) (o_h hw 205 rfl) (o_h hw 202 rfl) (o_h hw 204 rfl) (o_h hw 204 rfl) rfl Ex49 rfl (lenOf o_pd40 rfl) rfl rfl (W := 0) rfl at_55 (by decide) ?_
    rintro _ T61 L61 X61 ⟨rfl, N61q, e61⟩
    have N61 := Fr.app N54 N61q
    have hc62 : ¬ ((1 : Int32) = 0) := by decide
    refine xn X61 B at_58 (XT.i0_eq_f hc62) ?_
    refine xc X61 B at_61 1 rfl ?_
    refine xg X61 B 62 66 rfl at_62 (by decide) ?_
    obtain ⟨fs, hr, hrun, hended, hRW⟩ := X61.leaveW hS49 (by rw [e61]; omega) (v := some (.int 1)) (fun h => by rw [Bd.returns] at h; cases h)
    refine ⟨_, _, retOut X61 hx Bd.returns rfl (Or.inl ⟨rfl, Or.inr (Or.inl rfl), _, rfl⟩) (hb hby at_66) hr, hrun, hended, _, _, rfl, ?_, o_monoW hRW (by decide) (by decide)⟩
    refine ⟨?_, trivial⟩
    show o_Q0 Z p_1 p_2 p_3 p_4 h0 n0 _ T61.heap _
    rw [e61]
    exact ⟨rfl, N61⟩
  · refine xy X0 B 19 67 rfl at_19 (XT.i0_ne_t hc2) (by decide) ?_
    refine xI X0 B at_67 rfl ?_
    refine xc X0 B at_69 1 rfl ?_
    by_cases hc64 : v1 = (1 : Int32)
    · refine xm X0 B at_70 (XT.ii_ne_f hc64) ?_
      refine xb X0 B at_73 64 rfl ?_
      obtain ⟨T65, h65, k65, X65, e65, E65, A65, st65⟩ := newP X0 hx hZ (hw _ (List.mem_of_getElem? (i := 3) rfl)) e0 (g := (mkF m 75 #[.val (.int p_1), .val (.int p_2), .val (.int p_3), .val (.int p_4), .val (.int c1), .val (.int c2), .val (.int c3), .val (.int v1), .unset, .unset, .unset] [(.int 64)])) rfl (hb hby at_75) rfl (by decide) (cap := 64) (by decide) (by decide) (by decide) (by decide)
      obtain ⟨b65, g65⟩ : ∃ z, z = h0.size := ⟨_, rfl⟩
      rw [← g65] at A65 st65
      have z66 := E65.1
      have lt_b65 := o_lt A65.lt
      have K65 := K0.ext E65
      have V_b65 : o_AV Z h65 b65 .char (64 : Int32) (o_ch (o_ls (List.replicate 64 (0 : Int32)))) := o_AV.congr (o_AV.new A65 (by decide)) fun i _ => (o_rep 64 i).symm
      refine o_go st65 ?_
      have S67 : o_PS _ _ _ _ _ _ _ _ _ _ _ _ Z b65 (64 : Int32) n0 h65 _ _ _ (List.replicate 64 (0 : Int32)) := ⟨X65, e65, V_b65, by decide, N0, Keep.refl _ _⟩
      have ge67 : n0 ≤ b65 := by omega
      refine o_pI S67 hx hZ hby ge67 at_77 at_78 at_79 at_81 (k := 0) (v := 65) (by decide) rfl fun T67_0 h67_0 L67_0 S67_0 => ?_
      refine o_pI S67_0 hx hZ hby ge67 at_82 at_83 at_84 at_86 (k := 1) (v := 32) (by decide) rfl fun T67_1 h67_1 L67_1 S67_1 => ?_
      refine o_pI S67_1 hx hZ hby ge67 at_87 at_88 at_89 at_91 (k := 2) (v := 108) (by decide) rfl fun T67_2 h67_2 L67_2 S67_2 => ?_
      refine o_pI S67_2 hx hZ hby ge67 at_92 at_93 at_94 at_96 (k := 3) (v := 105) (by decide) rfl fun T67_3 h67_3 L67_3 S67_3 => ?_
      refine o_pI S67_3 hx hZ hby ge67 at_97 at_98 at_99 at_101 (k := 4) (v := 110) (by decide) rfl fun T67_4 h67_4 L67_4 S67_4 => ?_
      refine o_pI S67_4 hx hZ hby ge67 at_102 at_103 at_104 at_106 (k := 5) (v := 101) (by decide) rfl fun T67_5 h67_5 L67_5 S67_5 => ?_
      refine o_pB S67_5 hx hZ hby ge67 at_107 at_108 at_110 at_112 (k := 6) (v := 32) (by decide) rfl fun T67_6 h67_6 L67_6 S67_6 => ?_
      refine o_pB S67_6 hx hZ hby ge67 at_113 at_114 at_116 at_118 (k := 7) (v := 104) (by decide) rfl fun T67_7 h67_7 L67_7 S67_7 => ?_
      refine o_pB S67_7 hx hZ hby ge67 at_119 at_120 at_122 at_124 (k := 8) (v := 111) (by decide) rfl fun T67_8 h67_8 L67_8 S67_8 => ?_
      refine o_pB S67_8 hx hZ hby ge67 at_125 at_126 at_128 at_130 (k := 9) (v := 108) (by decide) rfl fun T67_9 h67_9 L67_9 S67_9 => ?_
      refine o_pB S67_9 hx hZ hby ge67 at_131 at_132 at_134 at_136 (k := 10) (v := 100) (by decide) rfl fun T67_10 h67_10 L67_10 S67_10 => ?_
      refine o_pB S67_10 hx hZ hby ge67 at_137 at_138 at_140 at_142 (k := 11) (v := 115) (by decide) rfl fun T67_11 h67_11 L67_11 S67_11 => ?_
      refine o_pB S67_11 hx hZ hby ge67 at_143 at_144 at_146 at_148 (k := 12) (v := 32) (by decide) rfl fun T67_12 h67_12 L67_12 S67_12 => ?_
      refine o_pB S67_12 hx hZ hby ge67 at_149 at_150 at_152 at_154 (k := 13) (v := 97) (by decide) rfl fun T67_13 h67_13 L67_13 S67_13 => ?_
      refine o_pB S67_13 hx hZ hby ge67 at_155 at_156 at_158 at_160 (k := 14) (v := 110) (by decide) rfl fun T67_14 h67_14 L67_14 S67_14 => ?_
      refine o_pB S67_14 hx hZ hby ge67 at_161 at_162 at_164 at_166 (k := 15) (v := 32) (by decide) rfl fun T67_15 h67_15 L67_15 S67_15 => ?_
      refine o_pB S67_15 hx hZ hby ge67 at_167 at_168 at_170 at_172 (k := 16) (v := 105) (by decide) rfl fun T67_16 h67_16 L67_16 S67_16 => ?_
      refine o_pB S67_16 hx hZ hby ge67 at_173 at_174 at_176 at_178 (k := 17) (v := 110) (by decide) rfl fun T67_17 h67_17 L67_17 S67_17 => ?_
      refine o_pB S67_17 hx hZ hby ge67 at_179 at_180 at_182 at_184 (k := 18) (v := 116) (by decide) rfl fun T67_18 h67_18 L67_18 S67_18 => ?_
      refine o_pB S67_18 hx hZ hby ge67 at_185 at_186 at_188 at_190 (k := 19) (v := 101) (by decide) rfl fun T67_19 h67_19 L67_19 S67_19 => ?_
      refine o_pB S67_19 hx hZ hby ge67 at_191 at_192 at_194 at_196 (k := 20) (v := 103) (by decide) rfl fun T67_20 h67_20 L67_20 S67_20 => ?_
      refine o_pB S67_20 hx hZ hby ge67 at_197 at_198 at_200 at_202 (k := 21) (v := 101) (by decide) rfl fun T67_21 h67_21 L67_21 S67_21 => ?_
      refine o_pB S67_21 hx hZ hby ge67 at_203 at_204 at_206 at_208 (k := 22) (v := 114) (by decide) rfl fun T67_22 h67_22 L67_22 S67_22 => ?_
      refine o_pB S67_22 hx hZ hby ge67 at_209 at_210 at_212 at_214 (k := 23) (v := 32) (by decide) rfl fun T67_23 h67_23 L67_23 S67_23 => ?_
      refine o_pB S67_23 hx hZ hby ge67 at_215 at_216 at_218 at_220 (k := 24) (v := 102) (by decide) rfl fun T67_24 h67_24 L67_24 S67_24 => ?_
      refine o_pB S67_24 hx hZ hby ge67 at_221 at_222 at_224 at_226 (k := 25) (v := 114) (by decide) rfl fun T67_25 h67_25 L67_25 S67_25 => ?_
      refine o_pB S67_25 hx hZ hby ge67 at_227 at_228 at_230 at_232 (k := 26) (v := 111) (by decide) rfl fun T67_26 h67_26 L67_26 S67_26 => ?_
      refine o_pB S67_26 hx hZ hby ge67 at_233 at_234 at_236 at_238 (k := 27) (v := 109) (by decide) rfl fun T67_27 h67_27 L67_27 S67_27 => ?_
      refine o_pB S67_27 hx hZ hby ge67 at_239 at_240 at_242 at_244 (k := 28) (v := 32) (by decide) rfl fun T67_28 h67_28 L67_28 S67_28 => ?_
      refine o_pB S67_28 hx hZ hby ge67 at_245 at_246 at_248 at_250 (k := 29) (v := 49) (by decide) rfl fun T67_29 h67_29 L67_29 S67_29 => ?_
      refine o_pB S67_29 hx hZ hby ge67 at_251 at_252 at_254 at_256 (k := 30) (v := 32) (by decide) rfl fun T67_30 h67_30 L67_30 S67_30 => ?_
      refine o_pB S67_30 hx hZ hby ge67 at_257 at_258 at_260 at_262 (k := 31) (v := 116) (by decide) rfl fun T67_31 h67_31 L67_31 S67_31 => ?_
      refine o_pB S67_31 hx hZ hby ge67 at_263 at_264 at_266 at_268 (k := 32) (v := 111) (by decide) rfl fun T67_32 h67_32 L67_32 S67_32 => ?_
      refine o_pB S67_32 hx hZ hby ge67 at_269 at_270 at_272 at_274 (k := 33) (v := 32) (by decide) rfl fun T67_33 h67_33 L67_33 S67_33 => ?_
      refine o_pB S67_33 hx hZ hby ge67 at_275 at_276 at_278 at_280 (k := 34) (v := 49) (by decide) rfl fun T67_34 h67_34 L67_34 S67_34 => ?_
      refine o_pB S67_34 hx hZ hby ge67 at_281 at_282 at_284 at_286 (k := 35) (v := 48) (by decide) rfl fun T67_35 h67_35 L67_35 S67_35 => ?_
      refine o_pB S67_35 hx hZ hby ge67 at_287 at_288 at_290 at_292 (k := 36) (v := 48) (by decide) rfl fun T67_36 h67_36 L67_36 S67_36 => ?_
      refine o_pB S67_36 hx hZ hby ge67 at_293 at_294 at_296 at_298 (k := 37) (v := 48) (by decide) rfl fun T67_37 h67_37 L67_37 S67_37 => ?_
      refine o_pB S67_37 hx hZ hby ge67 at_299 at_300 at_302 at_304 (k := 38) (v := 48) (by decide) rfl fun T67_38 h67_38 L67_38 S67_38 => ?_
      refine o_pB S67_38 hx hZ hby ge67 at_305 at_306 at_308 at_310 (k := 39) (v := 48) (by decide) rfl fun T67_39 h67_39 L67_39 S67_39 => ?_
      refine o_pB S67_39 hx hZ hby ge67 at_311 at_312 at_314 at_316 (k := 40) (v := 48) (by decide) rfl fun T67_40 h67_40 L67_40 S67_40 => ?_
      refine o_pB S67_40 hx hZ hby ge67 at_317 at_318 at_320 at_322 (k := 41) (v := 32) (by decide) rfl fun T67_41 h67_41 L67_41 S67_41 => ?_
      refine o_pB S67_41 hx hZ hby ge67 at_323 at_324 at_326 at_328 (k := 42) (v := 111) (by decide) rfl fun T67_42 h67_42 L67_42 S67_42 => ?_
      refine o_pB S67_42 hx hZ hby ge67 at_329 at_330 at_332 at_334 (k := 43) (v := 102) (by decide) rfl fun T67_43 h67_43 L67_43 S67_43 => ?_
      refine o_pB S67_43 hx hZ hby ge67 at_335 at_336 at_338 at_340 (k := 44) (v := 32) (by decide) rfl fun T67_44 h67_44 L67_44 S67_44 => ?_
      refine o_pB S67_44 hx hZ hby ge67 at_341 at_342 at_344 at_346 (k := 45) (v := 105) (by decide) rfl fun T67_45 h67_45 L67_45 S67_45 => ?_
      refine o_pB S67_45 hx hZ hby ge67 at_347 at_348 at_350 at_352 (k := 46) (v := 116) (by decide) rfl fun T67_46 h67_46 L67_46 S67_46 => ?_
      refine o_pB S67_46 hx hZ hby ge67 at_353 at_354 at_356 at_358 (k := 47) (v := 115) (by decide) rfl fun T67_47 h67_47 L67_47 S67_47 => ?_
      refine o_pB S67_47 hx hZ hby ge67 at_359 at_360 at_362 at_364 (k := 48) (v := 32) (by decide) rfl fun T67_48 h67_48 L67_48 S67_48 => ?_
      refine o_pB S67_48 hx hZ hby ge67 at_365 at_366 at_368 at_370 (k := 49) (v := 118) (by decide) rfl fun T67_49 h67_49 L67_49 S67_49 => ?_
      refine o_pB S67_49 hx hZ hby ge67 at_371 at_372 at_374 at_376 (k := 50) (v := 97) (by decide) rfl fun T67_50 h67_50 L67_50 S67_50 => ?_
      refine o_pB S67_50 hx hZ hby ge67 at_377 at_378 at_380 at_382 (k := 51) (v := 114) (by decide) rfl fun T67_51 h67_51 L67_51 S67_51 => ?_
      refine o_pB S67_51 hx hZ hby ge67 at_383 at_384 at_386 at_388 (k := 52) (v := 105) (by decide) rfl fun T67_52 h67_52 L67_52 S67_52 => ?_
      refine o_pB S67_52 hx hZ hby ge67 at_389 at_390 at_392 at_394 (k := 53) (v := 97) (by decide) rfl fun T67_53 h67_53 L67_53 S67_53 => ?_
      refine o_pB S67_53 hx hZ hby ge67 at_395 at_396 at_398 at_400 (k := 54) (v := 110) (by decide) rfl fun T67_54 h67_54 L67_54 S67_54 => ?_
      refine o_pB S67_54 hx hZ hby ge67 at_401 at_402 at_404 at_406 (k := 55) (v := 116) (by decide) rfl fun T67_55 h67_55 L67_55 S67_55 => ?_
      refine o_pB S67_55 hx hZ hby ge67 at_407 at_408 at_410 at_412 (k := 56) (v := 44) (by decide) rfl fun T67_56 h67_56 L67_56 S67_56 => ?_
      refine o_pB S67_56 hx hZ hby ge67 at_413 at_414 at_416 at_418 (k := 57) (v := 32) (by decide) rfl fun T67_57 h67_57 L67_57 S67_57 => ?_
      refine o_pB S67_57 hx hZ hby ge67 at_419 at_420 at_422 at_424 (k := 58) (v := 110) (by decide) rfl fun T67_58 h67_58 L67_58 S67_58 => ?_
      refine o_pB S67_58 hx hZ hby ge67 at_425 at_426 at_428 at_430 (k := 59) (v := 111) (by decide) rfl fun T67_59 h67_59 L67_59 S67_59 => ?_
      refine o_pB S67_59 hx hZ hby ge67 at_431 at_432 at_434 at_436 (k := 60) (v := 116) (by decide) rfl fun T67_60 h67_60 L67_60 S67_60 => ?_
      refine o_pB S67_60 hx hZ hby ge67 at_437 at_438 at_440 at_442 (k := 61) (v := 32) (by decide) rfl fun T67_61 h67_61 L67_61 S67_61 => ?_
      refine o_pL S67_61 hx hZ hby ge67 at_443 at_444 at_446 at_448 (k := 62) (by decide) rfl (by rw [← hdc1]; exact o_nar_c _) rfl fun T67_62 h67_62 L67_62 S67_62 => ?_
      refine o_pB S67_62 hx hZ hby ge67 at_449 at_450 at_452 at_454 (k := 63) (v := 46) (by decide) rfl fun T67_63 h67_63 L67_63 S67_63 => ?_
      obtain ⟨X67, e67, V67, -, N67, K67⟩ := S67_63
      have z68 := K67.1
      have KK67 := K65.trans K67 (allS (Or.inr (by omega)) all0)
      have V67 : o_AV Z h67_63 b65 .char (64 : Int32) (o_ch (o_ls (o_T62 ++ [c1, (46 : Int32)]))) := o_relist V67 rfl
      show o_Go _ _ _ _ T67_63 (mkF m 455 #[.val (.int p_1), .val (.int p_2), .val (.int p_3), .val (.int p_4), .val (.int c1), .val (.int c2), .val (.int c3), .val (.int v1), .unset, .unset, .unset] [(.ref b65)])
      refine xT X67 B at_455 rfl (l' := #[.val (.int p_1), .val (.int p_2), .val (.int p_3), .val (.int p_4), .val (.int c1), .val (.int c2), .val (.int c3), .val (.int v1), .val (.ref b65), .unset, .unset]) rfl ?_
      by_cases hc69 : (255 : Int32) < c1
      · show o_Go _ _ _ _ T67_63 (mkF m 457 #[.val (.int p_1), .val (.int p_2), .val (.int p_3), .val (.int p_4), .val (.int c1), .val (.int c2), .val (.int c3), .val (.int v1), .val (.ref b65), .unset, .unset] [])
        refine xI X67 B at_457 rfl ?_
        have f70 := ((j0.ext E65).keep K67 (allS (o_AV.plain V_b65) all0))
        refine o_cst X67 B H e67 (o_rm52_U (n0 := n0) hw (by omega) c1  f70 (show (255 : Int32) < c1 by first | assumption | omega | decide)) (o_h hw 270 rfl) (o_h hw 271 rfl) (o_w2 hw) (o_h hw 272 rfl) rfl (lenOf o_pd41 rfl) rfl rfl (W := 0) rfl at_459 (by decide) ?_
        rintro _ T71 L71 X71 ⟨x_72, x_73, rfl, N71q, K71q, f74, f75, f76, f77, f78, f79, f80⟩
        have N71 := Fr.app N67 N71q
        have z81 := K71q.1
        have K71 := KK67.trans K71q all0
        have z82 := o_lt f74.lt
        have z83 := o_lt f77.lt
        simp only [o_lts, and_true] at f80
        have f84 := (f70.keep K71q all0)
        obtain ⟨_, _, ⟨T85, L85, k85, n85⟩, -, X85, hS85, gr85, ⟨Lc85, ⟨hQ85, hV85⟩, l85, y85, z85⟩, st85⟩ := callSS X71 hx (y := (⟨"com/example/orderly_storefront/orderlystorefront/cart/CartException", "invalidQuantity", "(Ljava/lang/String;)Lcom/example/orderly_storefront/orderlystorefront/cart/CartException;"⟩ : MethodName)) hown (mvT hZ (o_h hw 22 rfl)) (mvT hZ (o_h hw 23 rfl)) (mvT hZ (o_w24 hw)) (mvT hZ (o_h hw 25 rfl)) (by decide) (o_backC (PV := (fun vm : Vm => Jvm.ConstHeldL (Z.setVm vm) "com/example/orderly_storefront/orderlystorefront/cart/CartException" 25 ∧ Jvm.ConstHeldL (Z.setVm vm) "com/example/orderly_storefront/orderlystorefront/cart/CartException" 31 ∧ Jvm.ConstHeldL (Z.setVm vm) "com/example/orderly_storefront/orderlystorefront/cart/CartExceptionInvalidQuantityPinLaw" 28)) (QV := (fun vm : Vm => Jvm.ConstHeldL (Z.setVm vm) "com/example/orderly_storefront/orderlystorefront/cart/CartExceptionInvalidQuantityPinLaw" 28)) (W := 0) (o_rm4_k1U l Z a0 hw [] x_72 x_73 (o_pc (fun _ => 0) 0 c1) T71.heap T71.heap.size (Nat.le_refl _) f84 f74 f76 f75 f77 (by first | rfl | assumption) (fun b c q => K71.2.1 b c (hold b c q) (by simp))) hZ (o_h hw 25 rfl) (o_w24 hw) (by decide) (by decide) (fun _ q => ⟨o_carryH hZ (o_w49 hw) q hp1, o_carryH hZ (o_w121 hw) q hp2, o_carryH hZ (o_w194 hw) q hp3⟩)) (g := (mkF m 462 #[.val (.int p_1), .val (.int p_2), .val (.int p_3), .val (.int p_4), .val (.int c1), .val (.int c2), .val (.int c3), .val (.int v1), .val (.ref b65), .unset, .unset] [(.ref x_72)])) rfl (by rw [hml]; rfl) (argsL := [(.ref x_72)]) (rest := []) (lenOf o_pd38 rfl) rfl (by show 2 * 0 + _ ≤ _; exact Nat.le_of_eq rfl) (hb hby at_462) (fun _ _ => ⟨rfl, rfl, (by decide : 3 + 12 ≤ _), (by decide : 70 + 859 ≤ _)⟩)
        dsimp only [Pt.U, Pt.locs, Pt.cells, Pt.slots] at X85 l85 y85 z85 st85 hQ85 hS85 gr85 hV85
        have y85 : k85 = 15 := y85
        have z85 : n85 = 929 := z85
        have Wn85 := hS85.1
        obtain ⟨X85, hS85, hZ, hown⟩ := rebS hS0 (n1 := T71.heap.size) (by omega) X85 hS85 gr85 hZ hown
        have H : o_H _ Z m _ c _ := ⟨hZ, hown, hml⟩
        have Hh86 := hV85
        subst y85
        subst z85
        obtain ⟨x_87, x_88, x_89, rfl, N85q, K85q, f90, f91, f92, f93, f94, f95, f96, f97, f98, f99, f100, f101, f102, f103⟩ := hQ85
        have N85 : Fr n0 L85 := by rw [l85]; exact Fr.app N71 (o_frmono N85q (by omega))
        have z104 := K85q.1
        have K85 := K71.trans K85q all0
        have z105 := o_lt f90.lt
        have z106 := o_lt f96.lt
        have z107 := o_lt f99.lt
        simp only [o_lts, and_true] at f103
        refine o_go (fun _ k => st85.trans k) ?_
        refine xT X85 B at_465 rfl (l' := #[.val (.int p_1), .val (.int p_2), .val (.int p_3), .val (.int p_4), .val (.int c1), .val (.int c2), .val (.int c3), .val (.int v1), .val (.ref b65), .val (.ref x_87), .unset]) rfl ?_
        refine xA X85 B at_467 rfl rfl ?_
        refine o_cvi X85 B H rfl (o_rm33_s1 (n0 := n0) hw (by omega) x_87 (o_iq Z) f93) (o_h hw 188 rfl) (o_h hw 190 rfl) (o_w24 hw) (o_h hw 192 rfl) (o_h hw 189 rfl) (o_h hw 191 rfl) (o_h hw 191 rfl) rfl f90 rfl (lenOf o_pd39 rfl) rfl rfl (W := 0) rfl at_469 (by decide) ?_
        rintro _ T108 L108 X108 ⟨rfl, N108q, e108⟩
        have N108 := Fr.app N85 N108q
        have f109 := (f84.keep K85q all0)
        refine o_gs X108 B H (o_h hw 193 rfl) e108 f109.2.2.2.2.2.2.2.1 at_472 fun T110 X110 e110 => ?_
        refine o_go (fun _ k => Jvm.RoadKit.acmp (g := (mkF m 475 #[.val (.int p_1), .val (.int p_2), .val (.int p_3), .val (.int p_4), .val (.int c1), .val (.int c2), .val (.int c3), .val (.int v1), .val (.ref b65), .val (.ref x_87), .unset] [(.ref (o_iq Z)), (.ref (o_iq Z))])) X110 hx rfl rfl rfl (pc0 := 475) (pc' := 478) (same := true) rfl (hb hby at_475) rfl (decide_eq_true rfl) (by decide) (by decide) k) ?_
        show o_Go _ _ _ _ T110 (mkF m 478 #[.val (.int p_1), .val (.int p_2), .val (.int p_3), .val (.int p_4), .val (.int c1), .val (.int c2), .val (.int c3), .val (.int v1), .val (.ref b65), .val (.ref x_87), .unset] [])
        obtain ⟨T111, h111, X111, e111, E111, A111, D111, Y111, st111⟩ := newO X110 hx hZ hown (o_w0 hw) (o_w1 hw) (o_w2 hw) e110 (g := (mkF m 478 #[.val (.int p_1), .val (.int p_2), .val (.int p_3), .val (.int p_4), .val (.int c1), .val (.int c2), .val (.int c3), .val (.int v1), .val (.ref b65), .val (.ref x_87), .unset] [])) rfl (hb hby at_478) (by decide) (by decide)
        obtain ⟨b111, g111⟩ : ∃ z, z = T85.heap.size := ⟨_, rfl⟩
        rw [← g111] at A111 D111 Y111 st111
        have z112 := E111.1
        have lt_b111 := o_lt A111.lt
        have K111 := K85.ext E111
        have F_value_b111 : o_F2 Z h111 b111 .null := D111 (Or.inr (o_w16 hw)) (ty := (.array .byte)) (by decide)
        have F_coder_b111 : o_F1 Z h111 b111 (.int 0) := D111 (Or.inr (o_w17 hw)) (ty := .byte) (by decide)
        refine o_go st111 ?_
        refine xd X111 B at_481 rfl ?_
        refine xA X111 B at_482 rfl rfl ?_
        have f113 := (f109.ext E111)
        have f114 := (((V67.keep K71q nin0).keep K85q nin0).ext E111)
        refine o_csp (a := b111) X111 B H e111 (o_rm1_U64 (n0 := n0) hw (by omega) b111 b65 (o_ls (o_T62 ++ [c1, (46 : Int32)])) 62 .null (.int 0) f113 A111 F_value_b111 F_coder_b111 f114 (fun i hi => o_le62 _ i hi) hc69 (by decide) hch1 (o_ne (by omega)) (by omega)) (o_h hw 4 rfl) (o_h hw 5 rfl) (o_w2 hw) (o_h hw 6 rfl) rfl rfl (lenOf o_pd37 rfl) rfl rfl (W := 1) rfl at_484 (by decide) ?_
        rintro _ T115 L115 X115 ⟨x_116, rfl, N115q, K115q, f117, f118, f119, f120, f121⟩
        have N115 := Fr.app N108 N115q
        have z122 := K115q.1
        have K115 := K111.trans K115q (allS (Or.inr (by omega)) all0)
        have z123 := o_lt f117.lt
        have z124 := o_lt f120.lt
        refine xA X115 B at_487 rfl rfl ?_
        have f125 := ((f92.ext E111).keep K115q (ninS (o_ne (by omega)) nin0))
        have f127 := ((f90.ext E111).keep K115q)
        refine o_cup X115 B H rfl (o_rm34_s1 (n0 := n0) hw (by omega) x_87 x_88 f125) (o_h hw 195 rfl) (o_h hw 198 rfl) (o_w173 hw) (o_h hw 200 rfl) (o_h hw 197 rfl) (o_h hw 199 rfl) (o_h hw 196 rfl) f127 rfl (lenOf o_pd30 rfl) rfl rfl (W := 1) rfl at_489 (by decide) ?_
        rintro _ T126 L126 X126 ⟨rfl, N126q, e126⟩
        have N126 := Fr.app N115 N126q
        have f128 := ((f96.ext E111).keep K115q)
        have f129 := ((f97.ext E111).keep K115q (ninS (o_ne (by omega)) nin0))
        have f130 := ((f98.ext E111).keep K115q (ninS (o_ne (by omega)) nin0))
        have f131 := ((f99.ext E111).keep K115q (ninS (o_ne (by omega)) nin0))
        have f132 := (f113.keep K115q (allS (o_exa_plain A111) all0))
        refine o_cvi X126 B H e126 (o_rm35 (n0 := n0) hw (by omega) b111 x_88 (128 : Int32) (1 : Int32) x_116 x_89 (o_fill2 (o_ls (o_T62 ++ [c1, (46 : Int32)])) (fun _ => 0) 64) (o_cpi (o_inf (o_ls [46]) 63 (o_cpi (o_pc (fun _ => 0) 0 c1) 0 (o_inf (o_cpi (o_cpi (o_ls o_T62) 0 (o_cpi (fun _ => 0) 0 (fun _ => 0) 0 16) 0 62) 0 (fun _ => 0) 0 62) 0 (fun _ => 0) 62) 124 2) 1) 0 (fun _ => 0) 0 128) f117 f128 f119 f129 f118 f130 f120 f131 f132 (fun i hi => o_heq_k1U c1 c2 c3 i (by rw [show ((128 : Int32)).toNatClampNeg = 128 by decide] at hi; exact hi)) (by decide) (o_ne (by omega))) (o_h hw 201 rfl) (o_h hw 203 rfl) (o_w2 hw) (o_h hw 205 rfl) (o_h hw 202 rfl) (o_h hw 204 rfl) (o_h hw 204 rfl) rfl f117 rfl (lenOf o_pd40 rfl) rfl rfl (W := 0) rfl at_492 (by decide) ?_
        rintro _ T133 L133 X133 ⟨rfl, N133q, e133⟩
        have N133 := Fr.app N126 N133q
        have hc134 : ¬ ((1 : Int32) = 0) := by decide
        refine xn X133 B at_495 (XT.i0_eq_f hc134) ?_
        refine xc X133 B at_498 1 rfl ?_
        refine xg X133 B 499 503 rfl at_499 (by decide) ?_
        obtain ⟨fs, hr, hrun, hended, hRW⟩ := X133.leaveW hS85 (by rw [e133]; omega) (v := some (.int 1)) (fun h => by rw [Bd.returns] at h; cases h)
        refine ⟨_, _, retOut X133 hx Bd.returns rfl (Or.inl ⟨rfl, Or.inr (Or.inl rfl), _, rfl⟩) (hb hby at_503) hr, hrun, hended, _, _, rfl, ?_, o_monoW hRW (by decide) (by decide)⟩
        refine ⟨?_, trivial⟩
        show o_Q0 Z p_1 p_2 p_3 p_4 h0 n0 _ T133.heap _
        rw [e133]
        exact ⟨rfl, N133⟩
      · show o_Go _ _ _ _ T67_63 (mkF m 457 #[.val (.int p_1), .val (.int p_2), .val (.int p_3), .val (.int p_4), .val (.int c1), .val (.int c2), .val (.int c3), .val (.int v1), .val (.ref b65), .unset, .unset] [])
        refine xI X67 B at_457 rfl ?_
        have f136 := ((j0.ext E65).keep K67 (allS (o_AV.plain V_b65) all0))
        refine o_cst X67 B H e67 (o_rm52_L (n0 := n0) hw (by omega) c1  f136 (show ¬ ((255 : Int32) < c1) by first | assumption | omega | decide)) (o_h hw 270 rfl) (o_h hw 271 rfl) (o_w2 hw) (o_h hw 272 rfl) rfl (lenOf o_pd41 rfl) rfl rfl (W := 0) rfl at_459 (by decide) ?_
        rintro _ T137 L137 X137 ⟨x_138, x_139, rfl, N137q, K137q, f140, f141, f142, f143, f144, f145, f146⟩
        have N137 := Fr.app N67 N137q
        have z147 := K137q.1
        have K137 := KK67.trans K137q all0
        have z148 := o_lt f140.lt
        have z149 := o_lt f143.lt
        simp only [o_lts, and_true] at f146
        have f150 := (f136.keep K137q all0)
        obtain ⟨_, _, ⟨T151, L151, k151, n151⟩, -, X151, hS151, gr151, ⟨Lc151, ⟨hQ151, hV151⟩, l151, y151, z151⟩, st151⟩ := callSS X137 hx (y := (⟨"com/example/orderly_storefront/orderlystorefront/cart/CartException", "invalidQuantity", "(Ljava/lang/String;)Lcom/example/orderly_storefront/orderlystorefront/cart/CartException;"⟩ : MethodName)) hown (mvT hZ (o_h hw 22 rfl)) (mvT hZ (o_h hw 23 rfl)) (mvT hZ (o_w24 hw)) (mvT hZ (o_h hw 25 rfl)) (by decide) (o_backC (PV := (fun vm : Vm => Jvm.ConstHeldL (Z.setVm vm) "com/example/orderly_storefront/orderlystorefront/cart/CartException" 25 ∧ Jvm.ConstHeldL (Z.setVm vm) "com/example/orderly_storefront/orderlystorefront/cart/CartException" 31 ∧ Jvm.ConstHeldL (Z.setVm vm) "com/example/orderly_storefront/orderlystorefront/cart/CartExceptionInvalidQuantityPinLaw" 28)) (QV := (fun vm : Vm => Jvm.ConstHeldL (Z.setVm vm) "com/example/orderly_storefront/orderlystorefront/cart/CartExceptionInvalidQuantityPinLaw" 28)) (W := 0) (o_rm4_k1L l Z a0 hw [] x_138 x_139 (o_ui (fun _ => 0) 0 c1) T137.heap T137.heap.size (Nat.le_refl _) f150 f140 f142 f141 f143 (by first | rfl | assumption) (fun b c q => K137.2.1 b c (hold b c q) (by simp))) hZ (o_h hw 25 rfl) (o_w24 hw) (by decide) (by decide) (fun _ q => ⟨o_carryH hZ (o_w49 hw) q hp1, o_carryH hZ (o_w121 hw) q hp2, o_carryH hZ (o_w194 hw) q hp3⟩)) (g := (mkF m 462 #[.val (.int p_1), .val (.int p_2), .val (.int p_3), .val (.int p_4), .val (.int c1), .val (.int c2), .val (.int c3), .val (.int v1), .val (.ref b65), .unset, .unset] [(.ref x_138)])) rfl (by rw [hml]; rfl) (argsL := [(.ref x_138)]) (rest := []) (lenOf o_pd38 rfl) rfl (by show 2 * 0 + _ ≤ _; exact Nat.le_of_eq rfl) (hb hby at_462) (fun _ _ => ⟨rfl, rfl, (by decide : 3 + 11 ≤ _), (by decide : 69 + 543 ≤ _)⟩)
        dsimp only [Pt.U, Pt.locs, Pt.cells, Pt.slots] at X151 l151 y151 z151 st151 hQ151 hS151 gr151 hV151
        have y151 : k151 = 14 := y151
        have z151 : n151 = 612 := z151
        have Wn151 := hS151.1
        obtain ⟨X151, hS151, hZ, hown⟩ := rebS hS0 (n1 := T137.heap.size) (by omega) X151 hS151 gr151 hZ hown
        have H : o_H _ Z m _ c _ := ⟨hZ, hown, hml⟩
        have Hh152 := hV151
        subst y151
        subst z151
        obtain ⟨x_153, x_154, x_155, rfl, N151q, K151q, f156, f157, f158, f159, f160, f161, f162, f163, f164, f165, f166, f167, f168, f169⟩ := hQ151
        have N151 : Fr n0 L151 := by rw [l151]; exact Fr.app N137 (o_frmono N151q (by omega))
        have z170 := K151q.1
        have K151 := K137.trans K151q all0
        have z171 := o_lt f156.lt
        have z172 := o_lt f162.lt
        have z173 := o_lt f165.lt
        simp only [o_lts, and_true] at f169
        refine o_go (fun _ k => st151.trans k) ?_
        refine xT X151 B at_465 rfl (l' := #[.val (.int p_1), .val (.int p_2), .val (.int p_3), .val (.int p_4), .val (.int c1), .val (.int c2), .val (.int c3), .val (.int v1), .val (.ref b65), .val (.ref x_153), .unset]) rfl ?_
        refine xA X151 B at_467 rfl rfl ?_
        refine o_cvi X151 B H rfl (o_rm33_s1 (n0 := n0) hw (by omega) x_153 (o_iq Z) f159) (o_h hw 188 rfl) (o_h hw 190 rfl) (o_w24 hw) (o_h hw 192 rfl) (o_h hw 189 rfl) (o_h hw 191 rfl) (o_h hw 191 rfl) rfl f156 rfl (lenOf o_pd39 rfl) rfl rfl (W := 0) rfl at_469 (by decide) ?_
        rintro _ T174 L174 X174 ⟨rfl, N174q, e174⟩
        have N174 := Fr.app N151 N174q
        have f175 := (f150.keep K151q all0)
        refine o_gs X174 B H (o_h hw 193 rfl) e174 f175.2.2.2.2.2.2.2.1 at_472 fun T176 X176 e176 => ?_
        refine o_go (fun _ k => Jvm.RoadKit.acmp (g := (mkF m 475 #[.val (.int p_1), .val (.int p_2), .val (.int p_3), .val (.int p_4), .val (.int c1), .val (.int c2), .val (.int c3), .val (.int v1), .val (.ref b65), .val (.ref x_153), .unset] [(.ref (o_iq Z)), (.ref (o_iq Z))])) X176 hx rfl rfl rfl (pc0 := 475) (pc' := 478) (same := true) rfl (hb hby at_475) rfl (decide_eq_true rfl) (by decide) (by decide) k) ?_
        show o_Go _ _ _ _ T176 (mkF m 478 #[.val (.int p_1), .val (.int p_2), .val (.int p_3), .val (.int p_4), .val (.int c1), .val (.int c2), .val (.int c3), .val (.int v1), .val (.ref b65), .val (.ref x_153), .unset] [])
        obtain ⟨T177, h177, X177, e177, E177, A177, D177, Y177, st177⟩ := newO X176 hx hZ hown (o_w0 hw) (o_w1 hw) (o_w2 hw) e176 (g := (mkF m 478 #[.val (.int p_1), .val (.int p_2), .val (.int p_3), .val (.int p_4), .val (.int c1), .val (.int c2), .val (.int c3), .val (.int v1), .val (.ref b65), .val (.ref x_153), .unset] [])) rfl (hb hby at_478) (by decide) (by decide)
        obtain ⟨b177, g177⟩ : ∃ z, z = T151.heap.size := ⟨_, rfl⟩
        rw [← g177] at A177 D177 Y177 st177
        have z178 := E177.1
        have lt_b177 := o_lt A177.lt
        have K177 := K151.ext E177
        have F_value_b177 : o_F2 Z h177 b177 .null := D177 (Or.inr (o_w16 hw)) (ty := (.array .byte)) (by decide)
        have F_coder_b177 : o_F1 Z h177 b177 (.int 0) := D177 (Or.inr (o_w17 hw)) (ty := .byte) (by decide)
        refine o_go st177 ?_
        refine xd X177 B at_481 rfl ?_
        refine xA X177 B at_482 rfl rfl ?_
        have f179 := (f175.ext E177)
        have f180 := (((V67.keep K137q nin0).keep K151q nin0).ext E177)
        refine o_csp (a := b177) X177 B H e177 (o_rm1_L64 (n0 := n0) hw (by omega) b177 b65 (o_ls (o_T62 ++ [c1, (46 : Int32)])) .null (.int 0) f179 A177 F_value_b177 F_coder_b177 f180 (fun i hi => o_ge62 (n := 2) (o_l1 hc69) i hi) (o_ne (by omega)) (by omega)) (o_h hw 4 rfl) (o_h hw 5 rfl) (o_w2 hw) (o_h hw 6 rfl) rfl rfl (lenOf o_pd37 rfl) rfl rfl (W := 1) rfl at_484 (by decide) ?_
        rintro _ T181 L181 X181 ⟨x_182, rfl, N181q, K181q, f183, f184, f185, f186, f187⟩
        have N181 := Fr.app N174 N181q
        have z188 := K181q.1
        have K181 := K177.trans K181q (allS (Or.inr (by omega)) all0)
        have z189 := o_lt f183.lt
        have z190 := o_lt f186.lt
        refine xA X181 B at_487 rfl rfl ?_
        have f191 := ((f158.ext E177).keep K181q (ninS (o_ne (by omega)) nin0))
        have f193 := ((f156.ext E177).keep K181q)
        refine o_cup X181 B H rfl (o_rm34_s1 (n0 := n0) hw (by omega) x_153 x_154 f191) (o_h hw 195 rfl) (o_h hw 198 rfl) (o_w173 hw) (o_h hw 200 rfl) (o_h hw 197 rfl) (o_h hw 199 rfl) (o_h hw 196 rfl) f193 rfl (lenOf o_pd30 rfl) rfl rfl (W := 1) rfl at_489 (by decide) ?_
        rintro _ T192 L192 X192 ⟨rfl, N192q, e192⟩
        have N192 := Fr.app N181 N192q
        have f194 := ((f162.ext E177).keep K181q)
        have f195 := ((f163.ext E177).keep K181q (ninS (o_ne (by omega)) nin0))
        have f196 := ((f164.ext E177).keep K181q (ninS (o_ne (by omega)) nin0))
        have f197 := ((f165.ext E177).keep K181q (ninS (o_ne (by omega)) nin0))
        have f198 := (f179.keep K181q (allS (o_exa_plain A177) all0))
        refine o_cvi X192 B H e192 (o_rm35 (n0 := n0) hw (by omega) b177 x_154 (64 : Int32) (0 : Int32) x_182 x_155 (o_fill (o_ls (o_T62 ++ [c1, (46 : Int32)])) (fun _ => 0) 64) (o_cpi (o_cpi (o_ls [46]) 0 (o_cpi (o_ui (fun _ => 0) 0 c1) 0 (o_cpi (o_cpi (o_ls o_T62) 0 (o_cpi (fun _ => 0) 0 (fun _ => 0) 0 16) 0 62) 0 (fun _ => 0) 0 62) 62 1) 63 1) 0 (fun _ => 0) 0 64) f183 f194 f185 f195 f184 f196 f186 f197 f198 (fun i hi => o_heq_k1L c1 c2 c3 i (by rw [show ((64 : Int32)).toNatClampNeg = 64 by decide] at hi; exact hi)) (by decide) (o_ne (by omega))) (o_h hw 201 rfl) (o_h hw 203 rfl) (o_w2 hw) (o_h hw 205 rfl) (o_h hw 202 rfl) (o_h hw 204 rfl) (o_h hw 204 rfl) rfl f183 rfl (lenOf o_pd40 rfl) rfl rfl (W := 0) rfl at_492 (by decide) ?_
        rintro _ T199 L199 X199 ⟨rfl, N199q, e199⟩
        have N199 := Fr.app N192 N199q
        have hc200 : ¬ ((1 : Int32) = 0) := by decide
        refine xn X199 B at_495 (XT.i0_eq_f hc200) ?_
        refine xc X199 B at_498 1 rfl ?_
        refine xg X199 B 499 503 rfl at_499 (by decide) ?_
        obtain ⟨fs, hr, hrun, hended, hRW⟩ := X199.leaveW hS151 (by rw [e199]; omega) (v := some (.int 1)) (fun h => by rw [Bd.returns] at h; cases h)
        refine ⟨_, _, retOut X199 hx Bd.returns rfl (Or.inl ⟨rfl, Or.inr (Or.inl rfl), _, rfl⟩) (hb hby at_503) hr, hrun, hended, _, _, rfl, ?_, o_monoW hRW (by decide) (by decide)⟩
        refine ⟨?_, trivial⟩
        show o_Q0 Z p_1 p_2 p_3 p_4 h0 n0 _ T199.heap _
        rw [e199]
        exact ⟨rfl, N199⟩
    · refine xM X0 B 70 504 rfl at_70 (XT.ii_ne_t hc64) (by decide) ?_
      refine xc X0 B at_504 3 rfl ?_
      obtain ⟨T202, h202, k202, X202, e202, E202, A202, st202⟩ := newP X0 hx hZ (hw _ (List.mem_of_getElem? (i := 3) rfl)) e0 (g := (mkF m 505 #[.val (.int p_1), .val (.int p_2), .val (.int p_3), .val (.int p_4), .val (.int c1), .val (.int c2), .val (.int c3), .val (.int v1), .unset, .unset, .unset] [(.int 3)])) rfl (hb hby at_505) rfl (by decide) (cap := 3) (by decide) (by decide) (by decide) (by decide)
      obtain ⟨b202, g202⟩ : ∃ z, z = h0.size := ⟨_, rfl⟩
      rw [← g202] at A202 st202
      have z203 := E202.1
      have lt_b202 := o_lt A202.lt
      have K202 := K0.ext E202
      have V_b202 : o_AV Z h202 b202 .char (3 : Int32) (o_ch (o_ls (List.replicate 3 (0 : Int32)))) := o_AV.congr (o_AV.new A202 (by decide)) fun i _ => (o_rep 3 i).symm
      refine o_go st202 ?_
      have S204 : o_PS _ _ _ _ _ _ _ _ _ _ _ _ Z b202 (3 : Int32) n0 h202 _ _ _ (List.replicate 3 (0 : Int32)) := ⟨X202, e202, V_b202, by decide, N0, Keep.refl _ _⟩
      have ge204 : n0 ≤ b202 := by omega
      refine o_pM S204 hx hZ hby ge204 at_507 at_508 at_509 at_511 (k := 0) (by decide) rfl (by rw [← hdc1]; exact o_nar_c _) rfl fun T204_0 h204_0 L204_0 S204_0 => ?_
      refine o_pM S204_0 hx hZ hby ge204 at_512 at_513 at_514 at_516 (k := 1) (by decide) rfl (by rw [← hdc2]; exact o_nar_c _) rfl fun T204_1 h204_1 L204_1 S204_1 => ?_
      refine o_pM S204_1 hx hZ hby ge204 at_517 at_518 at_519 at_521 (k := 2) (by decide) rfl (by rw [← hdc3]; exact o_nar_c _) rfl fun T204_2 h204_2 L204_2 S204_2 => ?_
      obtain ⟨X204, e204, V204, -, N204, K204⟩ := S204_2
      have z205 := K204.1
      have KK204 := K202.trans K204 (allS (Or.inr (by omega)) all0)
      have V204 : o_AV Z h204_2 b202 .char (3 : Int32) (o_ch (o_ls [c1, c2, c3])) := o_relist V204 rfl
      show o_Go _ _ _ _ T204_2 (mkF m 522 #[.val (.int p_1), .val (.int p_2), .val (.int p_3), .val (.int p_4), .val (.int c1), .val (.int c2), .val (.int c3), .val (.int v1), .unset, .unset, .unset] [(.ref b202)])
      refine xT X204 B at_522 rfl (l' := #[.val (.int p_1), .val (.int p_2), .val (.int p_3), .val (.int p_4), .val (.int c1), .val (.int c2), .val (.int c3), .val (.int v1), .val (.ref b202), .unset, .unset]) rfl ?_
      refine xb X204 B at_524 66 rfl ?_
      obtain ⟨T206, h206, k206, X206, e206, E206, A206, st206⟩ := newP X204 hx hZ (hw _ (List.mem_of_getElem? (i := 3) rfl)) e204 (g := (mkF m 526 #[.val (.int p_1), .val (.int p_2), .val (.int p_3), .val (.int p_4), .val (.int c1), .val (.int c2), .val (.int c3), .val (.int v1), .val (.ref b202), .unset, .unset] [(.int 66)])) rfl (hb hby at_526) rfl (by decide) (cap := 66) (by decide) (by decide) (by decide) (by decide)
      obtain ⟨b206, g206⟩ : ∃ z, z = h204_2.size := ⟨_, rfl⟩
      rw [← g206] at A206 st206
      have z207 := E206.1
      have lt_b206 := o_lt A206.lt
      have K206 := KK204.ext E206
      have V_b206 : o_AV Z h206 b206 .char (66 : Int32) (o_ch (o_ls (List.replicate 66 (0 : Int32)))) := o_AV.congr (o_AV.new A206 (by decide)) fun i _ => (o_rep 66 i).symm
      refine o_go st206 ?_
      have S208 : o_PS _ _ _ _ _ _ _ _ _ _ _ _ Z b206 (66 : Int32) n0 h206 _ _ _ (List.replicate 66 (0 : Int32)) := ⟨X206, e206, V_b206, by decide, N204, Keep.refl _ _⟩
      have ge208 : n0 ≤ b206 := by omega
      refine o_pI S208 hx hZ hby ge208 at_528 at_529 at_530 at_532 (k := 0) (v := 65) (by decide) rfl fun T208_0 h208_0 L208_0 S208_0 => ?_
      refine o_pI S208_0 hx hZ hby ge208 at_533 at_534 at_535 at_537 (k := 1) (v := 32) (by decide) rfl fun T208_1 h208_1 L208_1 S208_1 => ?_
      refine o_pI S208_1 hx hZ hby ge208 at_538 at_539 at_540 at_542 (k := 2) (v := 108) (by decide) rfl fun T208_2 h208_2 L208_2 S208_2 => ?_
      refine o_pI S208_2 hx hZ hby ge208 at_543 at_544 at_545 at_547 (k := 3) (v := 105) (by decide) rfl fun T208_3 h208_3 L208_3 S208_3 => ?_
      refine o_pI S208_3 hx hZ hby ge208 at_548 at_549 at_550 at_552 (k := 4) (v := 110) (by decide) rfl fun T208_4 h208_4 L208_4 S208_4 => ?_
      refine o_pI S208_4 hx hZ hby ge208 at_553 at_554 at_555 at_557 (k := 5) (v := 101) (by decide) rfl fun T208_5 h208_5 L208_5 S208_5 => ?_
      refine o_pB S208_5 hx hZ hby ge208 at_558 at_559 at_561 at_563 (k := 6) (v := 32) (by decide) rfl fun T208_6 h208_6 L208_6 S208_6 => ?_
      refine o_pB S208_6 hx hZ hby ge208 at_564 at_565 at_567 at_569 (k := 7) (v := 104) (by decide) rfl fun T208_7 h208_7 L208_7 S208_7 => ?_
      refine o_pB S208_7 hx hZ hby ge208 at_570 at_571 at_573 at_575 (k := 8) (v := 111) (by decide) rfl fun T208_8 h208_8 L208_8 S208_8 => ?_
      refine o_pB S208_8 hx hZ hby ge208 at_576 at_577 at_579 at_581 (k := 9) (v := 108) (by decide) rfl fun T208_9 h208_9 L208_9 S208_9 => ?_
      refine o_pB S208_9 hx hZ hby ge208 at_582 at_583 at_585 at_587 (k := 10) (v := 100) (by decide) rfl fun T208_10 h208_10 L208_10 S208_10 => ?_
      refine o_pB S208_10 hx hZ hby ge208 at_588 at_589 at_591 at_593 (k := 11) (v := 115) (by decide) rfl fun T208_11 h208_11 L208_11 S208_11 => ?_
      refine o_pB S208_11 hx hZ hby ge208 at_594 at_595 at_597 at_599 (k := 12) (v := 32) (by decide) rfl fun T208_12 h208_12 L208_12 S208_12 => ?_
      refine o_pB S208_12 hx hZ hby ge208 at_600 at_601 at_603 at_605 (k := 13) (v := 97) (by decide) rfl fun T208_13 h208_13 L208_13 S208_13 => ?_
      refine o_pB S208_13 hx hZ hby ge208 at_606 at_607 at_609 at_611 (k := 14) (v := 110) (by decide) rfl fun T208_14 h208_14 L208_14 S208_14 => ?_
      refine o_pB S208_14 hx hZ hby ge208 at_612 at_613 at_615 at_617 (k := 15) (v := 32) (by decide) rfl fun T208_15 h208_15 L208_15 S208_15 => ?_
      refine o_pB S208_15 hx hZ hby ge208 at_618 at_619 at_621 at_623 (k := 16) (v := 105) (by decide) rfl fun T208_16 h208_16 L208_16 S208_16 => ?_
      refine o_pB S208_16 hx hZ hby ge208 at_624 at_625 at_627 at_629 (k := 17) (v := 110) (by decide) rfl fun T208_17 h208_17 L208_17 S208_17 => ?_
      refine o_pB S208_17 hx hZ hby ge208 at_630 at_631 at_633 at_635 (k := 18) (v := 116) (by decide) rfl fun T208_18 h208_18 L208_18 S208_18 => ?_
      refine o_pB S208_18 hx hZ hby ge208 at_636 at_637 at_639 at_641 (k := 19) (v := 101) (by decide) rfl fun T208_19 h208_19 L208_19 S208_19 => ?_
      refine o_pB S208_19 hx hZ hby ge208 at_642 at_643 at_645 at_647 (k := 20) (v := 103) (by decide) rfl fun T208_20 h208_20 L208_20 S208_20 => ?_
      refine o_pB S208_20 hx hZ hby ge208 at_648 at_649 at_651 at_653 (k := 21) (v := 101) (by decide) rfl fun T208_21 h208_21 L208_21 S208_21 => ?_
      refine o_pB S208_21 hx hZ hby ge208 at_654 at_655 at_657 at_659 (k := 22) (v := 114) (by decide) rfl fun T208_22 h208_22 L208_22 S208_22 => ?_
      refine o_pB S208_22 hx hZ hby ge208 at_660 at_661 at_663 at_665 (k := 23) (v := 32) (by decide) rfl fun T208_23 h208_23 L208_23 S208_23 => ?_
      refine o_pB S208_23 hx hZ hby ge208 at_666 at_667 at_669 at_671 (k := 24) (v := 102) (by decide) rfl fun T208_24 h208_24 L208_24 S208_24 => ?_
      refine o_pB S208_24 hx hZ hby ge208 at_672 at_673 at_675 at_677 (k := 25) (v := 114) (by decide) rfl fun T208_25 h208_25 L208_25 S208_25 => ?_
      refine o_pB S208_25 hx hZ hby ge208 at_678 at_679 at_681 at_683 (k := 26) (v := 111) (by decide) rfl fun T208_26 h208_26 L208_26 S208_26 => ?_
      refine o_pB S208_26 hx hZ hby ge208 at_684 at_685 at_687 at_689 (k := 27) (v := 109) (by decide) rfl fun T208_27 h208_27 L208_27 S208_27 => ?_
      refine o_pB S208_27 hx hZ hby ge208 at_690 at_691 at_693 at_695 (k := 28) (v := 32) (by decide) rfl fun T208_28 h208_28 L208_28 S208_28 => ?_
      refine o_pB S208_28 hx hZ hby ge208 at_696 at_697 at_699 at_701 (k := 29) (v := 49) (by decide) rfl fun T208_29 h208_29 L208_29 S208_29 => ?_
      refine o_pB S208_29 hx hZ hby ge208 at_702 at_703 at_705 at_707 (k := 30) (v := 32) (by decide) rfl fun T208_30 h208_30 L208_30 S208_30 => ?_
      refine o_pB S208_30 hx hZ hby ge208 at_708 at_709 at_711 at_713 (k := 31) (v := 116) (by decide) rfl fun T208_31 h208_31 L208_31 S208_31 => ?_
      refine o_pB S208_31 hx hZ hby ge208 at_714 at_715 at_717 at_719 (k := 32) (v := 111) (by decide) rfl fun T208_32 h208_32 L208_32 S208_32 => ?_
      refine o_pB S208_32 hx hZ hby ge208 at_720 at_721 at_723 at_725 (k := 33) (v := 32) (by decide) rfl fun T208_33 h208_33 L208_33 S208_33 => ?_
      refine o_pB S208_33 hx hZ hby ge208 at_726 at_727 at_729 at_731 (k := 34) (v := 49) (by decide) rfl fun T208_34 h208_34 L208_34 S208_34 => ?_
      refine o_pB S208_34 hx hZ hby ge208 at_732 at_733 at_735 at_737 (k := 35) (v := 48) (by decide) rfl fun T208_35 h208_35 L208_35 S208_35 => ?_
      refine o_pB S208_35 hx hZ hby ge208 at_738 at_739 at_741 at_743 (k := 36) (v := 48) (by decide) rfl fun T208_36 h208_36 L208_36 S208_36 => ?_
      refine o_pB S208_36 hx hZ hby ge208 at_744 at_745 at_747 at_749 (k := 37) (v := 48) (by decide) rfl fun T208_37 h208_37 L208_37 S208_37 => ?_
      refine o_pB S208_37 hx hZ hby ge208 at_750 at_751 at_753 at_755 (k := 38) (v := 48) (by decide) rfl fun T208_38 h208_38 L208_38 S208_38 => ?_
      refine o_pB S208_38 hx hZ hby ge208 at_756 at_757 at_759 at_761 (k := 39) (v := 48) (by decide) rfl fun T208_39 h208_39 L208_39 S208_39 => ?_
      refine o_pB S208_39 hx hZ hby ge208 at_762 at_763 at_765 at_767 (k := 40) (v := 48) (by decide) rfl fun T208_40 h208_40 L208_40 S208_40 => ?_
      refine o_pB S208_40 hx hZ hby ge208 at_768 at_769 at_771 at_773 (k := 41) (v := 32) (by decide) rfl fun T208_41 h208_41 L208_41 S208_41 => ?_
      refine o_pB S208_41 hx hZ hby ge208 at_774 at_775 at_777 at_779 (k := 42) (v := 111) (by decide) rfl fun T208_42 h208_42 L208_42 S208_42 => ?_
      refine o_pB S208_42 hx hZ hby ge208 at_780 at_781 at_783 at_785 (k := 43) (v := 102) (by decide) rfl fun T208_43 h208_43 L208_43 S208_43 => ?_
      refine o_pB S208_43 hx hZ hby ge208 at_786 at_787 at_789 at_791 (k := 44) (v := 32) (by decide) rfl fun T208_44 h208_44 L208_44 S208_44 => ?_
      refine o_pB S208_44 hx hZ hby ge208 at_792 at_793 at_795 at_797 (k := 45) (v := 105) (by decide) rfl fun T208_45 h208_45 L208_45 S208_45 => ?_
      refine o_pB S208_45 hx hZ hby ge208 at_798 at_799 at_801 at_803 (k := 46) (v := 116) (by decide) rfl fun T208_46 h208_46 L208_46 S208_46 => ?_
      refine o_pB S208_46 hx hZ hby ge208 at_804 at_805 at_807 at_809 (k := 47) (v := 115) (by decide) rfl fun T208_47 h208_47 L208_47 S208_47 => ?_
      refine o_pB S208_47 hx hZ hby ge208 at_810 at_811 at_813 at_815 (k := 48) (v := 32) (by decide) rfl fun T208_48 h208_48 L208_48 S208_48 => ?_
      refine o_pB S208_48 hx hZ hby ge208 at_816 at_817 at_819 at_821 (k := 49) (v := 118) (by decide) rfl fun T208_49 h208_49 L208_49 S208_49 => ?_
      refine o_pB S208_49 hx hZ hby ge208 at_822 at_823 at_825 at_827 (k := 50) (v := 97) (by decide) rfl fun T208_50 h208_50 L208_50 S208_50 => ?_
      refine o_pB S208_50 hx hZ hby ge208 at_828 at_829 at_831 at_833 (k := 51) (v := 114) (by decide) rfl fun T208_51 h208_51 L208_51 S208_51 => ?_
      refine o_pB S208_51 hx hZ hby ge208 at_834 at_835 at_837 at_839 (k := 52) (v := 105) (by decide) rfl fun T208_52 h208_52 L208_52 S208_52 => ?_
      refine o_pB S208_52 hx hZ hby ge208 at_840 at_841 at_843 at_845 (k := 53) (v := 97) (by decide) rfl fun T208_53 h208_53 L208_53 S208_53 => ?_
      refine o_pB S208_53 hx hZ hby ge208 at_846 at_847 at_849 at_851 (k := 54) (v := 110) (by decide) rfl fun T208_54 h208_54 L208_54 S208_54 => ?_
      refine o_pB S208_54 hx hZ hby ge208 at_852 at_853 at_855 at_857 (k := 55) (v := 116) (by decide) rfl fun T208_55 h208_55 L208_55 S208_55 => ?_
      refine o_pB S208_55 hx hZ hby ge208 at_858 at_859 at_861 at_863 (k := 56) (v := 44) (by decide) rfl fun T208_56 h208_56 L208_56 S208_56 => ?_
      refine o_pB S208_56 hx hZ hby ge208 at_864 at_865 at_867 at_869 (k := 57) (v := 32) (by decide) rfl fun T208_57 h208_57 L208_57 S208_57 => ?_
      refine o_pB S208_57 hx hZ hby ge208 at_870 at_871 at_873 at_875 (k := 58) (v := 110) (by decide) rfl fun T208_58 h208_58 L208_58 S208_58 => ?_
      refine o_pB S208_58 hx hZ hby ge208 at_876 at_877 at_879 at_881 (k := 59) (v := 111) (by decide) rfl fun T208_59 h208_59 L208_59 S208_59 => ?_
      refine o_pB S208_59 hx hZ hby ge208 at_882 at_883 at_885 at_887 (k := 60) (v := 116) (by decide) rfl fun T208_60 h208_60 L208_60 S208_60 => ?_
      refine o_pB S208_60 hx hZ hby ge208 at_888 at_889 at_891 at_893 (k := 61) (v := 32) (by decide) rfl fun T208_61 h208_61 L208_61 S208_61 => ?_
      refine o_pL S208_61 hx hZ hby ge208 at_894 at_895 at_897 at_899 (k := 62) (by decide) rfl (by rw [← hdc1]; exact o_nar_c _) rfl fun T208_62 h208_62 L208_62 S208_62 => ?_
      refine o_pL S208_62 hx hZ hby ge208 at_900 at_901 at_903 at_905 (k := 63) (by decide) rfl (by rw [← hdc2]; exact o_nar_c _) rfl fun T208_63 h208_63 L208_63 S208_63 => ?_
      refine o_pL S208_63 hx hZ hby ge208 at_906 at_907 at_909 at_911 (k := 64) (by decide) rfl (by rw [← hdc3]; exact o_nar_c _) rfl fun T208_64 h208_64 L208_64 S208_64 => ?_
      refine o_pB S208_64 hx hZ hby ge208 at_912 at_913 at_915 at_917 (k := 65) (v := 46) (by decide) rfl fun T208_65 h208_65 L208_65 S208_65 => ?_
      obtain ⟨X208, e208, V208, -, N208, K208⟩ := S208_65
      have z209 := K208.1
      have KK208 := K206.trans K208 (allS (Or.inr (by omega)) all0)
      have V208 : o_AV Z h208_65 b206 .char (66 : Int32) (o_ch (o_ls (o_T62 ++ [c1, c2, c3, (46 : Int32)]))) := o_relist V208 rfl
      show o_Go _ _ _ _ T208_65 (mkF m 918 #[.val (.int p_1), .val (.int p_2), .val (.int p_3), .val (.int p_4), .val (.int c1), .val (.int c2), .val (.int c3), .val (.int v1), .val (.ref b202), .unset, .unset] [(.ref b206)])
      refine xT X208 B at_918 rfl (l' := #[.val (.int p_1), .val (.int p_2), .val (.int p_3), .val (.int p_4), .val (.int c1), .val (.int c2), .val (.int c3), .val (.int v1), .val (.ref b202), .val (.ref b206), .unset]) rfl ?_
      by_cases hc210 : (255 : Int32) < c1 ∨ (255 : Int32) < c2 ∨ (255 : Int32) < c3
      · show o_Go _ _ _ _ T208_65 (mkF m 920 #[.val (.int p_1), .val (.int p_2), .val (.int p_3), .val (.int p_4), .val (.int c1), .val (.int c2), .val (.int c3), .val (.int v1), .val (.ref b202), .val (.ref b206), .unset] [])
        obtain ⟨T211, h211, X211, e211, E211, A211, D211, Y211, st211⟩ := newO X208 hx hZ hown (o_w0 hw) (o_w1 hw) (o_w2 hw) e208 (g := (mkF m 920 #[.val (.int p_1), .val (.int p_2), .val (.int p_3), .val (.int p_4), .val (.int c1), .val (.int c2), .val (.int c3), .val (.int v1), .val (.ref b202), .val (.ref b206), .unset] [])) rfl (hb hby at_920) (by decide) (by decide)
        obtain ⟨b211, g211⟩ : ∃ z, z = h208_65.size := ⟨_, rfl⟩
        rw [← g211] at A211 D211 Y211 st211
        have z212 := E211.1
        have lt_b211 := o_lt A211.lt
        have K211 := KK208.ext E211
        have F_value_b211 : o_F2 Z h211 b211 .null := D211 (Or.inr (o_w16 hw)) (ty := (.array .byte)) (by decide)
        have F_coder_b211 : o_F1 Z h211 b211 (.int 0) := D211 (Or.inr (o_w17 hw)) (ty := .byte) (by decide)
        refine o_go st211 ?_
        refine xd X211 B at_923 rfl ?_
        refine xA X211 B at_924 rfl rfl ?_
        have f213 := (((((j0.ext E202).keep K204 (allS (o_AV.plain V_b202) all0)).ext E206).keep K208 (allS (o_AV.plain V_b206) all0)).ext E211)
        have f214 := (((V204.ext E206).keep K208 (ninS (o_ne (by omega)) nin0)).ext E211)
        refine o_csp (a := b211) X211 B H e211 (o_rm1_U3 (n0 := n0) hw (by omega) b211 b202 (o_ls [c1, c2, c3]) (o_k3 c1 c2) .null (.int 0) f213 A211 F_value_b211 F_coder_b211 f214 (fun i hi => o_k3le _ _ _ _ i hi) (o_k3gt _ hc210) (o_k3lt _ _) (o_k3ch _ hch1 hch2 hch3) (o_ne (by omega)) (by omega)) (o_h hw 4 rfl) (o_h hw 5 rfl) (o_w2 hw) (o_h hw 6 rfl) rfl rfl (lenOf o_pd37 rfl) rfl rfl (W := 1) rfl at_926 (by decide) ?_
        rintro _ T215 L215 X215 ⟨x_216, rfl, N215q, K215q, f217, f218, f219, f220, f221⟩
        have N215 := Fr.app N208 N215q
        have z222 := K215q.1
        have K215 := K211.trans K215q (allS (Or.inr (by omega)) all0)
        have z223 := o_lt f217.lt
        have z224 := o_lt f220.lt
        have f225 := (f213.keep K215q (allS (o_exa_plain A211) all0))
        obtain ⟨_, _, ⟨T226, L226, k226, n226⟩, -, X226, hS226, gr226, ⟨Lc226, ⟨hQ226, hV226⟩, l226, y226, z226⟩, st226⟩ := callSS X215 hx (y := (⟨"com/example/orderly_storefront/orderlystorefront/cart/CartException", "invalidQuantity", "(Ljava/lang/String;)Lcom/example/orderly_storefront/orderlystorefront/cart/CartException;"⟩ : MethodName)) hown (mvT hZ (o_h hw 22 rfl)) (mvT hZ (o_h hw 23 rfl)) (mvT hZ (o_w24 hw)) (mvT hZ (o_h hw 25 rfl)) (by decide) (o_backC (PV := (fun vm : Vm => Jvm.ConstHeldL (Z.setVm vm) "com/example/orderly_storefront/orderlystorefront/cart/CartException" 25 ∧ Jvm.ConstHeldL (Z.setVm vm) "com/example/orderly_storefront/orderlystorefront/cart/CartException" 31 ∧ Jvm.ConstHeldL (Z.setVm vm) "com/example/orderly_storefront/orderlystorefront/cart/CartExceptionInvalidQuantityPinLaw" 28)) (QV := (fun vm : Vm => Jvm.ConstHeldL (Z.setVm vm) "com/example/orderly_storefront/orderlystorefront/cart/CartExceptionInvalidQuantityPinLaw" 28)) (W := 0) (o_rm4_k3U l Z a0 hw [] b211 x_216 (o_fill2 (o_ls [c1, c2, c3]) (fun _ => 0) 3) T215.heap T215.heap.size (Nat.le_refl _) f225 f217 f218 f219 f220 (by first | rfl | assumption) (fun b c q => K215.2.1 b c (hold b c q) (by simp))) hZ (o_h hw 25 rfl) (o_w24 hw) (by decide) (by decide) (fun _ q => ⟨o_carryH hZ (o_w49 hw) q hp1, o_carryH hZ (o_w121 hw) q hp2, o_carryH hZ (o_w194 hw) q hp3⟩)) (g := (mkF m 929 #[.val (.int p_1), .val (.int p_2), .val (.int p_3), .val (.int p_4), .val (.int c1), .val (.int c2), .val (.int c3), .val (.int v1), .val (.ref b202), .val (.ref b206), .unset] [(.ref b211)])) rfl (by rw [hml]; rfl) (argsL := [(.ref b211)]) (rest := []) (lenOf o_pd38 rfl) rfl (by show 2 * 0 + _ ≤ _; exact Nat.le_of_eq rfl) (hb hby at_929) (fun _ _ => ⟨rfl, rfl, (by decide : 5 + 12 ≤ _), (by decide : 82 + 863 ≤ _)⟩)
        dsimp only [Pt.U, Pt.locs, Pt.cells, Pt.slots] at X226 l226 y226 z226 st226 hQ226 hS226 gr226 hV226
        have y226 : k226 = 17 := y226
        have z226 : n226 = 945 := z226
        have Wn226 := hS226.1
        obtain ⟨X226, hS226, hZ, hown⟩ := rebS hS0 (n1 := T215.heap.size) (by omega) X226 hS226 gr226 hZ hown
        have H : o_H _ Z m _ c _ := ⟨hZ, hown, hml⟩
        have Hh227 := hV226
        subst y226
        subst z226
        obtain ⟨x_228, x_229, x_230, rfl, N226q, K226q, f231, f232, f233, f234, f235, f236, f237, f238, f239, f240, f241, f242, f243, f244⟩ := hQ226
        have N226 : Fr n0 L226 := by rw [l226]; exact Fr.app N215 (o_frmono N226q (by omega))
        have z245 := K226q.1
        have K226 := K215.trans K226q all0
        have z246 := o_lt f231.lt
        have z247 := o_lt f237.lt
        have z248 := o_lt f240.lt
        simp only [o_lts, and_true] at f244
        refine o_go (fun _ k => st226.trans k) ?_
        refine xT X226 B at_932 rfl (l' := #[.val (.int p_1), .val (.int p_2), .val (.int p_3), .val (.int p_4), .val (.int c1), .val (.int c2), .val (.int c3), .val (.int v1), .val (.ref b202), .val (.ref b206), .val (.ref x_228)]) rfl ?_
        refine xA X226 B at_934 rfl rfl ?_
        refine o_cvi X226 B H rfl (o_rm33_s1 (n0 := n0) hw (by omega) x_228 (o_iq Z) f234) (o_h hw 188 rfl) (o_h hw 190 rfl) (o_w24 hw) (o_h hw 192 rfl) (o_h hw 189 rfl) (o_h hw 191 rfl) (o_h hw 191 rfl) rfl f231 rfl (lenOf o_pd39 rfl) rfl rfl (W := 0) rfl at_936 (by decide) ?_
        rintro _ T249 L249 X249 ⟨rfl, N249q, e249⟩
        have N249 := Fr.app N226 N249q
        have f250 := (f225.keep K226q all0)
        refine o_gs X249 B H (o_h hw 193 rfl) e249 f250.2.2.2.2.2.2.2.1 at_939 fun T251 X251 e251 => ?_
        refine o_go (fun _ k => Jvm.RoadKit.acmp (g := (mkF m 942 #[.val (.int p_1), .val (.int p_2), .val (.int p_3), .val (.int p_4), .val (.int c1), .val (.int c2), .val (.int c3), .val (.int v1), .val (.ref b202), .val (.ref b206), .val (.ref x_228)] [(.ref (o_iq Z)), (.ref (o_iq Z))])) X251 hx rfl rfl rfl (pc0 := 942) (pc' := 945) (same := true) rfl (hb hby at_942) rfl (decide_eq_true rfl) (by decide) (by decide) k) ?_
        show o_Go _ _ _ _ T251 (mkF m 945 #[.val (.int p_1), .val (.int p_2), .val (.int p_3), .val (.int p_4), .val (.int c1), .val (.int c2), .val (.int c3), .val (.int v1), .val (.ref b202), .val (.ref b206), .val (.ref x_228)] [])
        obtain ⟨T252, h252, X252, e252, E252, A252, D252, Y252, st252⟩ := newO X251 hx hZ hown (o_w0 hw) (o_w1 hw) (o_w2 hw) e251 (g := (mkF m 945 #[.val (.int p_1), .val (.int p_2), .val (.int p_3), .val (.int p_4), .val (.int c1), .val (.int c2), .val (.int c3), .val (.int v1), .val (.ref b202), .val (.ref b206), .val (.ref x_228)] [])) rfl (hb hby at_945) (by decide) (by decide)
        obtain ⟨b252, g252⟩ : ∃ z, z = T226.heap.size := ⟨_, rfl⟩
        rw [← g252] at A252 D252 Y252 st252
        have z253 := E252.1
        have lt_b252 := o_lt A252.lt
        have K252 := K226.ext E252
        have F_value_b252 : o_F2 Z h252 b252 .null := D252 (Or.inr (o_w16 hw)) (ty := (.array .byte)) (by decide)
        have F_coder_b252 : o_F1 Z h252 b252 (.int 0) := D252 (Or.inr (o_w17 hw)) (ty := .byte) (by decide)
        refine o_go st252 ?_
        refine xd X252 B at_948 rfl ?_
        refine xA X252 B at_949 rfl rfl ?_
        have f254 := (f250.ext E252)
        have f255 := ((((V208.ext E211).keep K215q (ninS (o_ne (by omega)) nin0)).keep K226q nin0).ext E252)
        refine o_csp (a := b252) X252 B H e252 (o_rm1_U66 (n0 := n0) hw (by omega) b252 b206 (o_ls (o_T62 ++ [c1, c2, c3, (46 : Int32)])) (62 + o_k3 c1 c2) .null (.int 0) f254 A252 F_value_b252 F_coder_b252 f255 (fun i hi => o_ge62 (n := o_k3 c1 c2) (o_k3le _ _ _ _) i hi) (by rw [o_at62]; exact o_k3gt _ hc210) (by have := o_k3lt c1 c2; omega) (by rw [o_at62]; exact o_k3ch _ hch1 hch2 hch3) (o_ne (by omega)) (by omega)) (o_h hw 4 rfl) (o_h hw 5 rfl) (o_w2 hw) (o_h hw 6 rfl) rfl rfl (lenOf o_pd37 rfl) rfl rfl (W := 1) rfl at_951 (by decide) ?_
        rintro _ T256 L256 X256 ⟨x_257, rfl, N256q, K256q, f258, f259, f260, f261, f262⟩
        have N256 := Fr.app N249 N256q
        have z263 := K256q.1
        have K256 := K252.trans K256q (allS (Or.inr (by omega)) all0)
        have z264 := o_lt f258.lt
        have z265 := o_lt f261.lt
        refine xA X256 B at_954 rfl rfl ?_
        have f266 := ((f233.ext E252).keep K256q (ninS (o_ne (by omega)) nin0))
        have f268 := ((f231.ext E252).keep K256q)
        refine o_cup X256 B H rfl (o_rm34_s1 (n0 := n0) hw (by omega) x_228 x_229 f266) (o_h hw 195 rfl) (o_h hw 198 rfl) (o_w173 hw) (o_h hw 200 rfl) (o_h hw 197 rfl) (o_h hw 199 rfl) (o_h hw 196 rfl) f268 rfl (lenOf o_pd30 rfl) rfl rfl (W := 1) rfl at_956 (by decide) ?_
        rintro _ T267 L267 X267 ⟨rfl, N267q, e267⟩
        have N267 := Fr.app N256 N267q
        have f269 := ((f237.ext E252).keep K256q)
        have f270 := ((f238.ext E252).keep K256q (ninS (o_ne (by omega)) nin0))
        have f271 := ((f239.ext E252).keep K256q (ninS (o_ne (by omega)) nin0))
        have f272 := ((f240.ext E252).keep K256q (ninS (o_ne (by omega)) nin0))
        have f273 := (f254.keep K256q (allS (o_exa_plain A252) all0))
        refine o_cvi X267 B H e267 (o_rm35 (n0 := n0) hw (by omega) b252 x_229 (132 : Int32) (1 : Int32) x_257 x_230 (o_fill2 (o_ls (o_T62 ++ [c1, c2, c3, (46 : Int32)])) (fun _ => 0) 66) (o_cpi (o_inf (o_ls [46]) 65 (o_cpi (o_fill2 (o_ls [c1, c2, c3]) (fun _ => 0) 3) 0 (o_inf (o_cpi (o_cpi (o_ls o_T62) 0 (o_cpi (fun _ => 0) 0 (fun _ => 0) 0 16) 0 62) 0 (fun _ => 0) 0 62) 0 (fun _ => 0) 62) 124 6) 1) 0 (fun _ => 0) 0 132) f258 f269 f260 f270 f259 f271 f261 f272 f273 (fun i hi => o_heq_k3U c1 c2 c3 i (by rw [show ((132 : Int32)).toNatClampNeg = 132 by decide] at hi; exact hi)) (by decide) (o_ne (by omega))) (o_h hw 201 rfl) (o_h hw 203 rfl) (o_w2 hw) (o_h hw 205 rfl) (o_h hw 202 rfl) (o_h hw 204 rfl) (o_h hw 204 rfl) rfl f258 rfl (lenOf o_pd40 rfl) rfl rfl (W := 0) rfl at_959 (by decide) ?_
        rintro _ T274 L274 X274 ⟨rfl, N274q, e274⟩
        have N274 := Fr.app N267 N274q
        have hc275 : ¬ ((1 : Int32) = 0) := by decide
        refine xn X274 B at_962 (XT.i0_eq_f hc275) ?_
        refine xc X274 B at_965 1 rfl ?_
        refine xg X274 B 966 970 rfl at_966 (by decide) ?_
        obtain ⟨fs, hr, hrun, hended, hRW⟩ := X274.leaveW hS226 (by rw [e274]; omega) (v := some (.int 1)) (fun h => by rw [Bd.returns] at h; cases h)
        refine ⟨_, _, retOut X274 hx Bd.returns rfl (Or.inl ⟨rfl, Or.inr (Or.inl rfl), _, rfl⟩) (hb hby at_970) hr, hrun, hended, _, _, rfl, ?_, o_monoW hRW (by decide) (by decide)⟩
        refine ⟨?_, trivial⟩
        show o_Q0 Z p_1 p_2 p_3 p_4 h0 n0 _ T274.heap _
        rw [e274]
        exact ⟨rfl, N274⟩
      · show o_Go _ _ _ _ T208_65 (mkF m 920 #[.val (.int p_1), .val (.int p_2), .val (.int p_3), .val (.int p_4), .val (.int c1), .val (.int c2), .val (.int c3), .val (.int v1), .val (.ref b202), .val (.ref b206), .unset] [])
        obtain ⟨T277, h277, X277, e277, E277, A277, D277, Y277, st277⟩ := newO X208 hx hZ hown (o_w0 hw) (o_w1 hw) (o_w2 hw) e208 (g := (mkF m 920 #[.val (.int p_1), .val (.int p_2), .val (.int p_3), .val (.int p_4), .val (.int c1), .val (.int c2), .val (.int c3), .val (.int v1), .val (.ref b202), .val (.ref b206), .unset] [])) rfl (hb hby at_920) (by decide) (by decide)
        obtain ⟨b277, g277⟩ : ∃ z, z = h208_65.size := ⟨_, rfl⟩
        rw [← g277] at A277 D277 Y277 st277
        have z278 := E277.1
        have lt_b277 := o_lt A277.lt
        have K277 := KK208.ext E277
        have F_value_b277 : o_F2 Z h277 b277 .null := D277 (Or.inr (o_w16 hw)) (ty := (.array .byte)) (by decide)
        have F_coder_b277 : o_F1 Z h277 b277 (.int 0) := D277 (Or.inr (o_w17 hw)) (ty := .byte) (by decide)
        refine o_go st277 ?_
        refine xd X277 B at_923 rfl ?_
        refine xA X277 B at_924 rfl rfl ?_
        have f279 := (((((j0.ext E202).keep K204 (allS (o_AV.plain V_b202) all0)).ext E206).keep K208 (allS (o_AV.plain V_b206) all0)).ext E277)
        have f280 := (((V204.ext E206).keep K208 (ninS (o_ne (by omega)) nin0)).ext E277)
        refine o_csp (a := b277) X277 B H e277 (o_rm1_L3 (n0 := n0) hw (by omega) b277 b202 (o_ls [c1, c2, c3]) .null (.int 0) f279 A277 F_value_b277 F_coder_b277 f280 (fun i hi => o_l3 hc210 i hi) (o_ne (by omega)) (by omega)) (o_h hw 4 rfl) (o_h hw 5 rfl) (o_w2 hw) (o_h hw 6 rfl) rfl rfl (lenOf o_pd37 rfl) rfl rfl (W := 1) rfl at_926 (by decide) ?_
        rintro _ T281 L281 X281 ⟨x_282, rfl, N281q, K281q, f283, f284, f285, f286, f287⟩
        have N281 := Fr.app N208 N281q
        have z288 := K281q.1
        have K281 := K277.trans K281q (allS (Or.inr (by omega)) all0)
        have z289 := o_lt f283.lt
        have z290 := o_lt f286.lt
        have f291 := (f279.keep K281q (allS (o_exa_plain A277) all0))
        obtain ⟨_, _, ⟨T292, L292, k292, n292⟩, -, X292, hS292, gr292, ⟨Lc292, ⟨hQ292, hV292⟩, l292, y292, z292⟩, st292⟩ := callSS X281 hx (y := (⟨"com/example/orderly_storefront/orderlystorefront/cart/CartException", "invalidQuantity", "(Ljava/lang/String;)Lcom/example/orderly_storefront/orderlystorefront/cart/CartException;"⟩ : MethodName)) hown (mvT hZ (o_h hw 22 rfl)) (mvT hZ (o_h hw 23 rfl)) (mvT hZ (o_w24 hw)) (mvT hZ (o_h hw 25 rfl)) (by decide) (o_backC (PV := (fun vm : Vm => Jvm.ConstHeldL (Z.setVm vm) "com/example/orderly_storefront/orderlystorefront/cart/CartException" 25 ∧ Jvm.ConstHeldL (Z.setVm vm) "com/example/orderly_storefront/orderlystorefront/cart/CartException" 31 ∧ Jvm.ConstHeldL (Z.setVm vm) "com/example/orderly_storefront/orderlystorefront/cart/CartExceptionInvalidQuantityPinLaw" 28)) (QV := (fun vm : Vm => Jvm.ConstHeldL (Z.setVm vm) "com/example/orderly_storefront/orderlystorefront/cart/CartExceptionInvalidQuantityPinLaw" 28)) (W := 0) (o_rm4_k3L l Z a0 hw [] b277 x_282 (o_fill (o_ls [c1, c2, c3]) (fun _ => 0) 3) T281.heap T281.heap.size (Nat.le_refl _) f291 f283 f284 f285 f286 (by first | rfl | assumption) (fun b c q => K281.2.1 b c (hold b c q) (by simp))) hZ (o_h hw 25 rfl) (o_w24 hw) (by decide) (by decide) (fun _ q => ⟨o_carryH hZ (o_w49 hw) q hp1, o_carryH hZ (o_w121 hw) q hp2, o_carryH hZ (o_w194 hw) q hp3⟩)) (g := (mkF m 929 #[.val (.int p_1), .val (.int p_2), .val (.int p_3), .val (.int p_4), .val (.int c1), .val (.int c2), .val (.int c3), .val (.int v1), .val (.ref b202), .val (.ref b206), .unset] [(.ref b277)])) rfl (by rw [hml]; rfl) (argsL := [(.ref b277)]) (rest := []) (lenOf o_pd38 rfl) rfl (by show 2 * 0 + _ ≤ _; exact Nat.le_of_eq rfl) (hb hby at_929) (fun _ _ => ⟨rfl, rfl, (by decide : 4 + 11 ≤ _), (by decide : 76 + 545 ≤ _)⟩)
        dsimp only [Pt.U, Pt.locs, Pt.cells, Pt.slots] at X292 l292 y292 z292 st292 hQ292 hS292 gr292 hV292
        have y292 : k292 = 15 := y292
        have z292 : n292 = 621 := z292
        have Wn292 := hS292.1
        obtain ⟨X292, hS292, hZ, hown⟩ := rebS hS0 (n1 := T281.heap.size) (by omega) X292 hS292 gr292 hZ hown
        have H : o_H _ Z m _ c _ := ⟨hZ, hown, hml⟩
        have Hh293 := hV292
        subst y292
        subst z292
        obtain ⟨x_294, x_295, x_296, rfl, N292q, K292q, f297, f298, f299, f300, f301, f302, f303, f304, f305, f306, f307, f308, f309, f310⟩ := hQ292
        have N292 : Fr n0 L292 := by rw [l292]; exact Fr.app N281 (o_frmono N292q (by omega))
        have z311 := K292q.1
        have K292 := K281.trans K292q all0
        have z312 := o_lt f297.lt
        have z313 := o_lt f303.lt
        have z314 := o_lt f306.lt
        simp only [o_lts, and_true] at f310
        refine o_go (fun _ k => st292.trans k) ?_
        refine xT X292 B at_932 rfl (l' := #[.val (.int p_1), .val (.int p_2), .val (.int p_3), .val (.int p_4), .val (.int c1), .val (.int c2), .val (.int c3), .val (.int v1), .val (.ref b202), .val (.ref b206), .val (.ref x_294)]) rfl ?_
        refine xA X292 B at_934 rfl rfl ?_
        refine o_cvi X292 B H rfl (o_rm33_s1 (n0 := n0) hw (by omega) x_294 (o_iq Z) f300) (o_h hw 188 rfl) (o_h hw 190 rfl) (o_w24 hw) (o_h hw 192 rfl) (o_h hw 189 rfl) (o_h hw 191 rfl) (o_h hw 191 rfl) rfl f297 rfl (lenOf o_pd39 rfl) rfl rfl (W := 0) rfl at_936 (by decide) ?_
        rintro _ T315 L315 X315 ⟨rfl, N315q, e315⟩
        have N315 := Fr.app N292 N315q
        have f316 := (f291.keep K292q all0)
        refine o_gs X315 B H (o_h hw 193 rfl) e315 f316.2.2.2.2.2.2.2.1 at_939 fun T317 X317 e317 => ?_
        refine o_go (fun _ k => Jvm.RoadKit.acmp (g := (mkF m 942 #[.val (.int p_1), .val (.int p_2), .val (.int p_3), .val (.int p_4), .val (.int c1), .val (.int c2), .val (.int c3), .val (.int v1), .val (.ref b202), .val (.ref b206), .val (.ref x_294)] [(.ref (o_iq Z)), (.ref (o_iq Z))])) X317 hx rfl rfl rfl (pc0 := 942) (pc' := 945) (same := true) rfl (hb hby at_942) rfl (decide_eq_true rfl) (by decide) (by decide) k) ?_
        show o_Go _ _ _ _ T317 (mkF m 945 #[.val (.int p_1), .val (.int p_2), .val (.int p_3), .val (.int p_4), .val (.int c1), .val (.int c2), .val (.int c3), .val (.int v1), .val (.ref b202), .val (.ref b206), .val (.ref x_294)] [])
        obtain ⟨T318, h318, X318, e318, E318, A318, D318, Y318, st318⟩ := newO X317 hx hZ hown (o_w0 hw) (o_w1 hw) (o_w2 hw) e317 (g := (mkF m 945 #[.val (.int p_1), .val (.int p_2), .val (.int p_3), .val (.int p_4), .val (.int c1), .val (.int c2), .val (.int c3), .val (.int v1), .val (.ref b202), .val (.ref b206), .val (.ref x_294)] [])) rfl (hb hby at_945) (by decide) (by decide)
        obtain ⟨b318, g318⟩ : ∃ z, z = T292.heap.size := ⟨_, rfl⟩
        rw [← g318] at A318 D318 Y318 st318
        have z319 := E318.1
        have lt_b318 := o_lt A318.lt
        have K318 := K292.ext E318
        have F_value_b318 : o_F2 Z h318 b318 .null := D318 (Or.inr (o_w16 hw)) (ty := (.array .byte)) (by decide)
        have F_coder_b318 : o_F1 Z h318 b318 (.int 0) := D318 (Or.inr (o_w17 hw)) (ty := .byte) (by decide)
        refine o_go st318 ?_
        refine xd X318 B at_948 rfl ?_
        refine xA X318 B at_949 rfl rfl ?_
        have f320 := (f316.ext E318)
        have f321 := ((((V208.ext E277).keep K281q (ninS (o_ne (by omega)) nin0)).keep K292q nin0).ext E318)
        refine o_csp (a := b318) X318 B H e318 (o_rm1_L66 (n0 := n0) hw (by omega) b318 b206 (o_ls (o_T62 ++ [c1, c2, c3, (46 : Int32)])) .null (.int 0) f320 A318 F_value_b318 F_coder_b318 f321 (fun i hi => o_ge62 (n := 4) (o_l4 hc210) i hi) (o_ne (by omega)) (by omega)) (o_h hw 4 rfl) (o_h hw 5 rfl) (o_w2 hw) (o_h hw 6 rfl) rfl rfl (lenOf o_pd37 rfl) rfl rfl (W := 1) rfl at_951 (by decide) ?_
        rintro _ T322 L322 X322 ⟨x_323, rfl, N322q, K322q, f324, f325, f326, f327, f328⟩
        have N322 := Fr.app N315 N322q
        have z329 := K322q.1
        have K322 := K318.trans K322q (allS (Or.inr (by omega)) all0)
        have z330 := o_lt f324.lt
        have z331 := o_lt f327.lt
        refine xA X322 B at_954 rfl rfl ?_
        have f332 := ((f299.ext E318).keep K322q (ninS (o_ne (by omega)) nin0))
        have f334 := ((f297.ext E318).keep K322q)
        refine o_cup X322 B H rfl (o_rm34_s1 (n0 := n0) hw (by omega) x_294 x_295 f332) (o_h hw 195 rfl) (o_h hw 198 rfl) (o_w173 hw) (o_h hw 200 rfl) (o_h hw 197 rfl) (o_h hw 199 rfl) (o_h hw 196 rfl) f334 rfl (lenOf o_pd30 rfl) rfl rfl (W := 1) rfl at_956 (by decide) ?_
        rintro _ T333 L333 X333 ⟨rfl, N333q, e333⟩
        have N333 := Fr.app N322 N333q
        have f335 := ((f303.ext E318).keep K322q)
        have f336 := ((f304.ext E318).keep K322q (ninS (o_ne (by omega)) nin0))
        have f337 := ((f305.ext E318).keep K322q (ninS (o_ne (by omega)) nin0))
        have f338 := ((f306.ext E318).keep K322q (ninS (o_ne (by omega)) nin0))
        have f339 := (f320.keep K322q (allS (o_exa_plain A318) all0))
        refine o_cvi X333 B H e333 (o_rm35 (n0 := n0) hw (by omega) b318 x_295 (66 : Int32) (0 : Int32) x_323 x_296 (o_fill (o_ls (o_T62 ++ [c1, c2, c3, (46 : Int32)])) (fun _ => 0) 66) (o_cpi (o_cpi (o_ls [46]) 0 (o_cpi (o_fill (o_ls [c1, c2, c3]) (fun _ => 0) 3) 0 (o_cpi (o_cpi (o_ls o_T62) 0 (o_cpi (fun _ => 0) 0 (fun _ => 0) 0 16) 0 62) 0 (fun _ => 0) 0 62) 62 3) 65 1) 0 (fun _ => 0) 0 66) f324 f335 f326 f336 f325 f337 f327 f338 f339 (fun i hi => o_heq_k3L c1 c2 c3 i (by rw [show ((66 : Int32)).toNatClampNeg = 66 by decide] at hi; exact hi)) (by decide) (o_ne (by omega))) (o_h hw 201 rfl) (o_h hw 203 rfl) (o_w2 hw) (o_h hw 205 rfl) (o_h hw 202 rfl) (o_h hw 204 rfl) (o_h hw 204 rfl) rfl f324 rfl (lenOf o_pd40 rfl) rfl rfl (W := 0) rfl at_959 (by decide) ?_
        rintro _ T340 L340 X340 ⟨rfl, N340q, e340⟩
        have N340 := Fr.app N333 N340q
        have hc341 : ¬ ((1 : Int32) = 0) := by decide
        refine xn X340 B at_962 (XT.i0_eq_f hc341) ?_
        refine xc X340 B at_965 1 rfl ?_
        refine xg X340 B 966 970 rfl at_966 (by decide) ?_
        obtain ⟨fs, hr, hrun, hended, hRW⟩ := X340.leaveW hS292 (by rw [e340]; omega) (v := some (.int 1)) (fun h => by rw [Bd.returns] at h; cases h)
        refine ⟨_, _, retOut X340 hx Bd.returns rfl (Or.inl ⟨rfl, Or.inr (Or.inl rfl), _, rfl⟩) (hb hby at_970) hr, hrun, hended, _, _, rfl, ?_, o_monoW hRW (by decide) (by decide)⟩
        refine ⟨?_, trivial⟩
        show o_Q0 Z p_1 p_2 p_3 p_4 h0 n0 _ T340.heap _
        rw [e340]
        exact ⟨rfl, N340⟩

theorem comes_1 {Post : Tables → Env → Array Value → State → Outcome → State → Prop} (hpost : ∀ tb e args s v u, (limb_1_1.after args s (.returned v) u = true ∧ limb_1_2.after args s (.returned v) u = true ∧ True) → ReturnedEndW s (.returned v) u (Jvm.fieldLocs frame_1_writes args s ++ Jvm.arrayLocs frame_1_arrays args s ++ Jvm.staticLocs frame_1_statics s) 48 5952 → Post tb e args s (.returned v) u) :
    ArmFor flags0 classFile x code maxLocals ret World_1 tables_1 room_1 Calls_1 rest_1 Pre_1 Post := by
  intro l hfl _ _ p e ha hc hk s m args below hf hA hF happ hP
  obtain ⟨hcalls, hrest, hpre⟩ := hP
  obtain ⟨-, -, -, hnamed, -, -, -, hat⟩ := (Spec.applies_iff hf).mp happ
  obtain ⟨hg, hn⟩ := and_e (Cond.before_iff.mp (show (Jvm.Cond.and given_1 narrow_1).before args s = true from hpre))
  obtain ⟨g1, g2⟩ := and_e hg
  obtain ⟨g3, g4⟩ := and_e g2
  obtain ⟨g5, g6⟩ := and_e g4
  obtain ⟨g7, g8⟩ := and_e g6
  obtain ⟨w0, w1, w2, w3, rfl⟩ : ∃ w0 w1 w2 w3 : Value, args = #[w0, w1, w2, w3] := by
    have hs : args.size = 4 := by simpa [Cond.value, given_1] using g1
    obtain ⟨L⟩ := args
    match L, hs with
    | [w0, w1, w2, w3], _ => exact ⟨w0, w1, w2, w3, rfl⟩
  have hw := fun d (hd : d ∈ tables_1) => atoms_spec (ws := Jvm.Cond.code x code maxLocals ret :: tables_1) hat d (List.mem_cons_of_mem _ hd)
  have hfit : Fit s := fun {y c} hc i hi => by
    obtain ⟨ha, rfl⟩ := Array.getElem?_eq_some_iff.mp hc
    have q := List.all_eq_true.mp ((Array.all_eq_true_iff_forall_mem.mp hF) _ (Array.getElem_mem ha)) i (List.mem_range.mpr hi)
    simpa [Array.getElem?_eq_getElem hi] using q
  obtain ⟨hsets, hown0⟩ := atoms_of _ (rest_1_c_eq ▸ (show rest_1_c.before _ s = true from hrest))
  have hr0 := Cond.before_iff.mp hown0
  obtain ⟨i0, ei0⟩ := is_v g3
  obtain rfl : w0 = (.int i0) := Option.some.inj ei0
  obtain ⟨i1, ei1⟩ := is_v g5
  obtain rfl : w1 = (.int i1) := Option.some.inj ei1
  obtain ⟨i2, ei2⟩ := is_v g7
  obtain rfl : w2 = (.int i2) := Option.some.inj ei2
  obtain ⟨i3, ei3⟩ := is_v g8
  obtain rfl : w3 = (.int i3) := Option.some.inj ei3
  have pAD := Sta.start (o_eq_int (Cond.before_iff.mp (hsets _ (List.mem_of_getElem? (i := 32) rfl)))) (Or.inl (hsets _ (List.mem_of_getElem? (i := 31) rfl)))
  have pHI := Sta.start (o_eq_int (Cond.before_iff.mp (hsets _ (List.mem_of_getElem? (i := 35) rfl)))) (Or.inl (hsets _ (List.mem_of_getElem? (i := 34) rfl)))
  have pLO := Sta.start (o_eq_int (Cond.before_iff.mp (hsets _ (List.mem_of_getElem? (i := 38) rfl)))) (Or.inl (hsets _ (List.mem_of_getElem? (i := 37) rfl)))
  obtain ⟨cs, ecs⟩ := is_v (Cond.before_iff.mp (hsets _ (List.mem_of_getElem? (i := 1) rfl)))
  have vcs : o_cs s = cs := congrArg (fun o => o_int (Option.getD o .null)) ecs
  have pCS : Sta s s.heap "java/lang/String" "COMPACT_STRINGS" "Z" (.int (o_cs s)) := by rw [vcs]; exact Sta.start ecs (Or.inl (hsets _ (List.mem_of_getElem? (i := 0) rfl)))
  have hcw := hsets _ (List.mem_of_getElem? (i := 2) rfl)
  have hcs : ¬ (o_cs s = 0) := fun q => by
    rw [vcs] at q; subst q; have z := Cond.before_iff.mp hcw; have z1 := eq_i ecs (Term.int_eval (0 : Int32)) rfl; unfold Cond.value at z; rw [z1] at z; cases z
  obtain ⟨t_fm, efm, hrf⟩ := isR_v (Cond.before_iff.mp (hsets _ (List.mem_of_getElem? (i := 8) rfl)))
  have vfm : o_fm s = t_fm := congrArg (fun o : Option Value => Option.getD o .null) efm
  have pFM : Sta s s.heap "jdk/internal/util/Preconditions" "SIOOBE_FORMATTER" "Ljava/util/function/BiFunction;" (o_fm s) := by rw [vfm]; exact Sta.start efm (Or.inl (hsets _ (List.mem_of_getElem? (i := 7) rfl)))
  have hcat : (o_fm s).category = 1 := by rw [vfm]; rcases ref_cases hrf with rfl | ⟨_, rfl⟩ <;> rfl
  obtain ⟨t_us, eus⟩ := arr_v (Cond.before_iff.mp (hsets _ (List.mem_of_getElem? (i := 17) rfl)))
  have vus : o_us s = t_us := congrArg (fun o => o_ref (Option.getD o .null)) eus
  have pUS : Sta s s.heap "java/lang/Throwable" "UNASSIGNED_STACK" "[Ljava/lang/StackTraceElement;" (.ref (o_us s)) := by rw [vus]; exact Sta.start eus (Or.inl (hsets _ (List.mem_of_getElem? (i := 15) rfl)))
  obtain ⟨t_ss, ess, -⟩ := o_exa_ref (Cond.before_iff.mp (hsets _ (List.mem_of_getElem? (i := 22) rfl)))
  have vss : o_ss s = t_ss := congrArg (fun o => o_ref (Option.getD o .null)) ess
  have pSS : Sta s s.heap "java/lang/Throwable" "SUPPRESSED_SENTINEL" "Ljava/util/List;" (.ref (o_ss s)) := by rw [vss]; exact Sta.start ess (Or.inl (hsets _ (List.mem_of_getElem? (i := 20) rfl)))
  obtain ⟨t_iq, eiq, -⟩ := o_exa_ref hn
  have viq : o_iq s = t_iq := congrArg (fun o => o_ref (Option.getD o .null)) eiq
  have pIQ : Sta s s.heap "com/example/orderly_storefront/orderlystorefront/cart/CartException$Reason" "INVALID_QUANTITY" "Lcom/example/orderly_storefront/orderlystorefront/cart/CartException$Reason;" (.ref (o_iq s)) := by rw [viq]; exact Sta.start eiq (Or.inr ⟨(hw _ (List.mem_of_getElem? (i := 29) rfl)), (hw _ (List.mem_of_getElem? (i := 30) rfl))⟩)
  have hcw' : compactW.before #[] s = true := hcw
  have hp0 := o_heldL ((show constsHeld consts_1 s from hcalls.1) _ (List.mem_of_getElem? (i := 3) rfl)) (hw _ (List.mem_of_getElem? (i := 14) rfl)) (by decide +kernel) hcw' (o_w16 hw) (o_w17 hw) (hw _ (List.mem_of_getElem? (i := 15) rfl)) (o_w1 hw)
  have hp1 := o_heldL ((show constsHeld consts_1 s from hcalls.1) _ (List.mem_of_getElem? (i := 0) rfl)) (o_w49 hw) (by decide +kernel) hcw' (o_w16 hw) (o_w17 hw) (hw _ (List.mem_of_getElem? (i := 15) rfl)) (o_w1 hw)
  have hp2 := o_heldL ((show constsHeld consts_1 s from hcalls.1) _ (List.mem_of_getElem? (i := 1) rfl)) (o_w121 hw) (by decide +kernel) hcw' (o_w16 hw) (o_w17 hw) (hw _ (List.mem_of_getElem? (i := 15) rfl)) (o_w1 hw)
  have hp3 := o_heldL ((show constsHeld consts_1 s from hcalls.1) _ (List.mem_of_getElem? (i := 2) rfl)) (o_w194 hw) (by decide +kernel) hcw' (o_w16 hw) (o_w17 hw) (hw _ (List.mem_of_getElem? (i := 15) rfl)) (o_w1 hw)
  obtain ⟨n, o, h1, h2, h3, _, L, rfl, ⟨⟨rfl, N⟩, -⟩, hq⟩ := o_rm0 l s _ hw tables_1 i0 i1 i2 i3  s.heap s.heap.size (Nat.le_refl _) ⟨pCS, pAD, pHI, pLO, pFM, pUS, pSS, pIQ, hcs, hcat⟩ rfl (fun _ _ q => q) (Nat.le_refl _) p e ha hc hk s m _ below hf ((Spec.applies_iff_loose hf).mp happ).1 ⟨rfl, State.Warmed39.refl s, rfl, ⟨hp0, hp1, hp2, hp3⟩⟩ trivial
  refine ⟨n, _, h1, h2, h3, hpost _ _ _ _ _ _ ⟨Cond.after_iff.mpr rfl, Cond.after_iff.mpr (eq_i res_at (Term.int_eval (1)) rfl), trivial⟩ ⟨hq.1, hq.2.1, hq.2.2.1, (hq.2.2.2.sift fun y hy => Or.inr (N y hy)).mono (by decide) (by decide)⟩⟩
theorem main_1_1 : Claimed_1_1 := comes_1 fun _ _ _ _ _ _ h hF => ⟨h.1, hF⟩
theorem main_1_2 : Claimed_1_2 := comes_1 fun _ _ _ _ _ _ h hF => ⟨h.2.1, hF⟩
end Jvm.Pilot.@@N@@
namespace Jvm.Pilot.@@N@@
open Jvm Jvm.ClassFile Sem Op Lib Jvm.Free Jvm.Stand Jvm.Pilot.@@N@@.Jvm.D
/-! MADE BY PROGRAM (witnessworld.py) out of the Statement's table words and the real class files: 42 classes; the members and pool entries that the words name. The judged class is class 1, her method 1. -/
namespace start1
open Jvm.ClassFile
def fd (n : String) (t : FieldType) (a s : Nat) : Field := { name := n, type := t, accessFlags := a, slot := s, constantValue := 0 }
def mt (n d : String) (ps : List FieldType) (r : Option FieldType) (a : Nat) (c : Option Code) : Method := { name := n, desc := d, sig := { parameters := ps, returnType := r }, accessFlags := a, code := c }
def co (a b : Nat) (c : ByteArray) : Code := { maxStack := a, maxLocals := b, code := c, exceptionTable := #[], attributes := #[] }
def cw1 : Jvm.Cond := Jvm.Cond.code ⟨"java/lang/String", "<init>", "([C)V"⟩ jdk_42_method_3_code 2 none
def cw2 : Jvm.Cond := Jvm.Cond.code ⟨"java/lang/String", "<init>", "([CIILjava/lang/Void;)V"⟩ jdk_42_method_149_code 6 none
def cw3 : Jvm.Cond := Jvm.Cond.code ⟨"java/lang/Object", "<init>", "()V"⟩ object_method_1_code 1 none
def cw4 : Jvm.Cond := Jvm.Cond.code ⟨"com/example/orderly_storefront/orderlystorefront/cart/CartException", "invalidQuantity", "(Ljava/lang/String;)Lcom/example/orderly_storefront/orderlystorefront/cart/CartException;"⟩ prog_5_method_2_code 1 (Option.some (Jvm.ClassFile.FieldType.object "com/example/orderly_storefront/orderlystorefront/cart/CartException"))
def cw5 : Jvm.Cond := Jvm.Cond.code ⟨"java/lang/StringBuilder", "<init>", "()V"⟩ jdk_67_method_1_code 1 none
def cw6 : Jvm.Cond := Jvm.Cond.code ⟨"java/lang/AbstractStringBuilder", "<init>", "(I)V"⟩ jdk_68_method_2_code 2 none
def cw7 : Jvm.Cond := Jvm.Cond.code ⟨"java/lang/StringBuilder", "append", "(Ljava/lang/String;)Ljava/lang/StringBuilder;"⟩ jdk_67_method_7_code 2 (Option.some (Jvm.ClassFile.FieldType.object "java/lang/StringBuilder"))
def cw8 : Jvm.Cond := Jvm.Cond.code ⟨"java/lang/AbstractStringBuilder", "append", "(Ljava/lang/String;)Ljava/lang/AbstractStringBuilder;"⟩ jdk_68_method_22_code 3 (Option.some (Jvm.ClassFile.FieldType.object "java/lang/AbstractStringBuilder"))
def cw9 : Jvm.Cond := Jvm.Cond.code ⟨"java/lang/String", "length", "()I"⟩ jdk_42_method_54_code 1 (some .int)
def cw10 : Jvm.Cond := Jvm.Cond.code ⟨"java/lang/String", "coder", "()B"⟩ jdk_42_method_152_code 1 (some .byte)
def cw11 : Jvm.Cond := Jvm.Cond.code ⟨"java/lang/AbstractStringBuilder", "ensureCapacityInternal", "(I)V"⟩ jdk_68_method_9_code 3 none
def cw12 : Jvm.Cond := Jvm.Cond.code ⟨"java/lang/AbstractStringBuilder", "newCapacity", "(I)I"⟩ jdk_68_method_10_code 6 (some .int)
def cw13 : Jvm.Cond := Jvm.Cond.code ⟨"jdk/internal/util/ArraysSupport", "newLength", "(III)I"⟩ jdk_48_method_27_code 4 (some .int)
def cw14 : Jvm.Cond := Jvm.Cond.code ⟨"java/lang/Math", "max", "(II)I"⟩ jdk_29_method_65_code 2 (some .int)
def cw15 : Jvm.Cond := Jvm.Cond.code ⟨"java/util/Arrays", "copyOf", "([BI)[B"⟩ jdk_65_method_121_code 3 (Option.some (Jvm.ClassFile.FieldType.array Jvm.ClassFile.FieldType.byte))
def cw16 : Jvm.Cond := Jvm.Cond.code ⟨"java/lang/Math", "min", "(II)I"⟩ jdk_29_method_69_code 2 (some .int)
def cw17 : Jvm.Cond := Jvm.Cond.code ⟨"java/lang/AbstractStringBuilder", "putStringAt", "(ILjava/lang/String;)V"⟩ jdk_68_method_73_code 3 none
def cw18 : Jvm.Cond := Jvm.Cond.code ⟨"java/lang/AbstractStringBuilder", "inflateIfNeededFor", "(Ljava/lang/String;)V"⟩ jdk_68_method_71_code 2 none
def cw19 : Jvm.Cond := Jvm.Cond.code ⟨"java/lang/String", "getBytes", "([BIB)V"⟩ jdk_42_method_147_code 4 none
def cw20 : Jvm.Cond := Jvm.Cond.code ⟨"java/lang/StringBuilder", "toString", "()Ljava/lang/String;"⟩ jdk_67_method_42_code 1 (Option.some (Jvm.ClassFile.FieldType.object "java/lang/String"))
def cw21 : Jvm.Cond := Jvm.Cond.code ⟨"java/lang/String", "<init>", "(Ljava/lang/StringBuilder;)V"⟩ jdk_42_method_53_code 2 none
def cw22 : Jvm.Cond := Jvm.Cond.code ⟨"java/lang/String", "<init>", "(Ljava/lang/AbstractStringBuilder;Ljava/lang/Void;)V"⟩ jdk_42_method_150_code 5 none
def cw23 : Jvm.Cond := Jvm.Cond.code ⟨"java/lang/AbstractStringBuilder", "getValue", "()[B"⟩ jdk_68_method_64_code 1 (Option.some (Jvm.ClassFile.FieldType.array Jvm.ClassFile.FieldType.byte))
def cw24 : Jvm.Cond := Jvm.Cond.code ⟨"java/lang/StringBuilder", "length", "()I"⟩ jdk_67_method_93_code 1 (some .int)
def cw25 : Jvm.Cond := Jvm.Cond.code ⟨"java/lang/AbstractStringBuilder", "length", "()I"⟩ jdk_68_method_6_code 1 (some .int)
def cw26 : Jvm.Cond := Jvm.Cond.code ⟨"java/lang/AbstractStringBuilder", "isLatin1", "()Z"⟩ jdk_68_method_68_code 1 (some .boolean)
def cw27 : Jvm.Cond := Jvm.Cond.code ⟨"java/util/Arrays", "copyOfRange", "([BII)[B"⟩ jdk_65_method_132_code 3 (Option.some (Jvm.ClassFile.FieldType.array Jvm.ClassFile.FieldType.byte))
def cw28 : Jvm.Cond := Jvm.Cond.code ⟨"java/util/Arrays", "copyOfRangeByte", "([BII)[B"⟩ jdk_65_method_133_code 5 (Option.some (Jvm.ClassFile.FieldType.array Jvm.ClassFile.FieldType.byte))
def cw29 : Jvm.Cond := Jvm.Cond.code ⟨"java/util/Arrays", "checkLength", "(II)V"⟩ jdk_65_method_131_code 2 none
def cw30 : Jvm.Cond := Jvm.Cond.code ⟨"com/example/orderly_storefront/orderlystorefront/cart/CartException", "<init>", "(Lcom/example/orderly_storefront/orderlystorefront/cart/CartException$Reason;Ljava/lang/String;)V"⟩ prog_5_method_1_code 3 none
def cw31 : Jvm.Cond := Jvm.Cond.code ⟨"java/lang/Exception", "<init>", "(Ljava/lang/String;Ljava/lang/Throwable;ZZ)V"⟩ jdk_59_method_5_code 5 none
def cw32 : Jvm.Cond := Jvm.Cond.code ⟨"java/lang/Throwable", "<init>", "(Ljava/lang/String;Ljava/lang/Throwable;ZZ)V"⟩ jdk_78_method_5_code 5 none
def cw33 : Jvm.Cond := Jvm.Cond.code ⟨"com/example/orderly_storefront/orderlystorefront/cart/CartException", "reason", "()Lcom/example/orderly_storefront/orderlystorefront/cart/CartException$Reason;"⟩ prog_5_method_3_code 1 (Option.some (Jvm.ClassFile.FieldType.object "com/example/orderly_storefront/orderlystorefront/cart/CartException$Reason"))
def cw34 : Jvm.Cond := Jvm.Cond.code ⟨"java/lang/Throwable", "getMessage", "()Ljava/lang/String;"⟩ jdk_78_method_6_code 1 (Option.some (Jvm.ClassFile.FieldType.object "java/lang/String"))
def cw35 : Jvm.Cond := Jvm.Cond.code ⟨"java/lang/String", "equals", "(Ljava/lang/Object;)Z"⟩ jdk_42_method_66_code 3 (some .boolean)
def cw36 : Jvm.Cond := Jvm.Cond.code ⟨"java/lang/StringLatin1", "equals", "([B[B)Z"⟩ jdk_43_method_13_code 3 (some .boolean)
def cw37 : Jvm.Cond := Jvm.Cond.code ⟨"java/lang/StringUTF16", "compress", "([CII)[B"⟩ jdk_52_method_16_code 6 (Option.some (Jvm.ClassFile.FieldType.array Jvm.ClassFile.FieldType.byte))
def cw38 : Jvm.Cond := Jvm.Cond.code ⟨"java/lang/StringUTF16", "compress", "([CI[BII)I"⟩ jdk_52_method_21_code 7 (some .int)
def cw39 : Jvm.Cond := Jvm.Cond.code ⟨"java/lang/StringUTF16", "coderFromArrayLen", "([BI)B"⟩ jdk_52_method_15_code 2 (some .byte)
def cw40 : Jvm.Cond := Jvm.Cond.code ⟨"java/lang/StringUTF16", "toBytes", "([CII)[B"⟩ jdk_52_method_14_code 5 (Option.some (Jvm.ClassFile.FieldType.array Jvm.ClassFile.FieldType.byte))
def cw41 : Jvm.Cond := Jvm.Cond.code ⟨"java/lang/StringUTF16", "newBytesFor", "(I)[B"⟩ jdk_52_method_2_code 1 (Option.some (Jvm.ClassFile.FieldType.array Jvm.ClassFile.FieldType.byte))
def cw42 : Jvm.Cond := Jvm.Cond.code ⟨"java/lang/StringUTF16", "newBytesLength", "(I)I"⟩ jdk_52_method_3_code 1 (some .int)
def cw43 : Jvm.Cond := Jvm.Cond.code ⟨"java/lang/StringUTF16", "putChar", "([BII)V"⟩ jdk_52_method_4_code 3 none
def cw44 : Jvm.Cond := Jvm.Cond.code ⟨"java/lang/StringUTF16", "getChar", "([BI)C"⟩ jdk_52_method_5_code 2 (some .char)
def cw45 : Jvm.Cond := Jvm.Cond.code ⟨"java/lang/AbstractStringBuilder", "inflate", "()V"⟩ jdk_68_method_11_code 2 none
def cw46 : Jvm.Cond := Jvm.Cond.code ⟨"java/lang/StringLatin1", "inflate", "([BI[BII)V"⟩ jdk_43_method_50_code 5 none
def cw47 : Jvm.Cond := Jvm.Cond.code ⟨"java/lang/StringUTF16", "inflate", "([BI[BII)V"⟩ jdk_52_method_86_code 6 none
def cw48 : Jvm.Cond := Jvm.Cond.code ⟨"java/lang/StringUTF16", "checkBoundsOffCount", "(II[B)V"⟩ jdk_52_method_94_code 3 none
def cw49 : Jvm.Cond := Jvm.Cond.code ⟨"java/lang/StringUTF16", "length", "([B)I"⟩ jdk_52_method_6_code 1 (some .int)
def cw50 : Jvm.Cond := Jvm.Cond.code ⟨"java/lang/String", "checkBoundsOffCount", "(III)I"⟩ jdk_42_method_157_code 3 (some .int)
def cw51 : Jvm.Cond := Jvm.Cond.code ⟨"jdk/internal/util/Preconditions", "checkFromIndexSize", "(IIILjava/util/function/BiFunction;)I"⟩ jdk_41_method_13_code 4 (some .int)
def cw52 : Jvm.Cond := Jvm.Cond.code ⟨"java/lang/String", "valueOf", "(C)Ljava/lang/String;"⟩ jdk_42_method_139_code 1 (Option.some (Jvm.ClassFile.FieldType.object "java/lang/String"))
def cw53 : Jvm.Cond := Jvm.Cond.code ⟨"java/lang/StringLatin1", "canEncode", "(C)Z"⟩ jdk_43_method_3_code 1 (some .boolean)
def cw54 : Jvm.Cond := Jvm.Cond.code ⟨"java/lang/StringLatin1", "toBytes", "(C)[B"⟩ jdk_43_method_46_code 1 (Option.some (Jvm.ClassFile.FieldType.array Jvm.ClassFile.FieldType.byte))
def cw55 : Jvm.Cond := Jvm.Cond.code ⟨"java/lang/String", "<init>", "([BB)V"⟩ jdk_42_method_151_code 3 none
def cw56 : Jvm.Cond := Jvm.Cond.code ⟨"java/lang/StringUTF16", "toBytes", "(C)[B"⟩ jdk_52_method_24_code 2 (Option.some (Jvm.ClassFile.FieldType.array Jvm.ClassFile.FieldType.byte))
def u (s : String) : CpInfo := .utf8 (stringToUtf16 s)
/-- a pool by its gaps: so many unusable entries, then the entry; so many at the end -/
def gap : Nat → List CpInfo → List CpInfo
  | 0, r => r
  | n + 1, r => .unusable :: gap n r
def poolList (es : List (Nat × CpInfo)) (last : Nat) : List CpInfo := es.foldr (fun e r => gap e.1 (e.2 :: r)) (gap last [])
def pool (es : List (Nat × CpInfo)) (last : Nat) : Array CpInfo := ⟨poolList es last⟩
def fileOf (pool : Array CpInfo) (this : Nat) (attrs : Array Attribute := #[]) (ms : Array MethodInfo := #[]) (fl : Nat := 33) (sup : Nat := 0) (ifs : Array Nat := #[]) (fds : Array FieldInfo := #[]) : ClassFile where
  minorVersion := 0
  majorVersion := 65
  constantPool := pool
  accessFlags := fl
  thisClass := this
  superClass := sup
  interfaces := ifs
  fields := fds
  methods := ms
  attributes := attrs
def plain (name : String) (sup : Option ClassId) : Class where
  name := name
  kind := .ordinary
  loader := none
  accessFlags := 33
  super := sup
  interfaces := #[]
  cf := none
  fields := #[]
  methods := #[]
  instanceTypes := #[]
  staticTypes := #[]
  resolved := #[]
  callSites := []
  init := .initialized
  statics := none
  mirror := none

def pool0 : Array CpInfo := pool [(5, u "<init>"), (0, u "()V"), (1, .class_ 10), (1, u "java/lang/Object")] 113

def k0c0 : Code := co 0 1 object_method_1_code
def k0m0 : Method := mt "<init>" "()V" [] none 1 (some k0c0)
/-- java/lang/Object -/
def k0 : Class := { plain "java/lang/Object" none with
  accessFlags := 33
  interfaces := #[]
  cf := some (fileOf pool0 8 #[] #[⟨1, 5, 6, #[]⟩] 33 0 #[] #[])
  fields := #[]
  methods := #[k0m0]
  instanceTypes := #[]
  staticTypes := #[]
  resolved := Array.replicate 124 none
  statics := none }

def pool1 : Array CpInfo := pool [(2, .class_ 4), (1, u "java/lang/Object"), (0, u "<init>"), (0, u "()V"), (0, .class_ 8), (0, u "java/lang/String"), (0, .methodref 7 10), (0, .nameAndType 5 11), (0, u "([C)V"), (0, .methodref 13 14), (0, .class_ 15), (0, .nameAndType 16 17), (0, u "com/example/orderly_storefront/orderlystorefront/cart/CartException"), (0, u "invalidQuantity"), (0, u "(Ljava/lang/String;)Lcom/example/orderly_storefront/orderlystorefront/cart/CartException;"), (0, .methodref 13 19), (0, .nameAndType 20 21), (0, u "reason"), (0, u "()Lcom/example/orderly_storefront/orderlystorefront/cart/CartException$Reason;"), (0, .fieldref 23 24), (0, .class_ 25), (0, .nameAndType 26 27), (0, u "com/example/orderly_storefront/orderlystorefront/cart/CartException$Reason"), (0, u "INVALID_QUANTITY"), (0, u "Lcom/example/orderly_storefront/orderlystorefront/cart/CartException$Reason;"), (0, .string 29), (0, u "A line holds an integer from 1 to 1000000 of its variant, not ."), (0, .methodref 13 31), (0, .nameAndType 32 33), (0, u "getMessage"), (0, u "()Ljava/lang/String;"), (0, .methodref 7 35), (0, .nameAndType 36 37), (0, u "equals"), (0, u "(Ljava/lang/Object;)Z"), (0, .methodref 7 39), (0, .nameAndType 40 41), (0, u "valueOf"), (0, u "(C)Ljava/lang/String;"), (0, .class_ 43), (0, u "com/example/orderly_storefront/orderlystorefront/cart/CartExceptionInvalidQuantityPinLaw"), (2, u "law"), (0, u "(IIII)Z")] 7

def k1m0 : Method := mt "<init>" "()V" [] none 1 none
def k1c1 : Code := co 4 11 code
def k1m1 : Method := mt "law" "(IIII)Z" [.int, .int, .int, .int] (some .boolean) 9 (some k1c1)
/-- com/example/orderly_storefront/orderlystorefront/cart/CartExceptionInvalidQuantityPinLaw -/
def k1 : Class := { plain "com/example/orderly_storefront/orderlystorefront/cart/CartExceptionInvalidQuantityPinLaw" (some 0) with
  accessFlags := 49
  interfaces := #[]
  cf := some (fileOf pool1 42 #[] #[⟨1, 5, 6, #[]⟩, ⟨9, 46, 47, #[]⟩] 49 2 #[] #[])
  fields := #[]
  methods := #[k1m0, k1m1]
  instanceTypes := #[]
  staticTypes := #[]
  resolved := Array.replicate 55 none
  statics := none }

def pool2 : Array CpInfo := pool [(1, .class_ 2), (0, u "java/io/Serializable"), (0, .class_ 4), (0, u "java/lang/Object")] 2

/-- java/io/Serializable -/
def k2 : Class := { plain "java/io/Serializable" (some 0) with
  accessFlags := 1537
  interfaces := #[]
  cf := some (fileOf pool2 1 #[] #[] 1537 3 #[] #[])
  fields := #[]
  methods := #[]
  instanceTypes := #[]
  staticTypes := #[]
  resolved := Array.replicate 7 none
  statics := none }

def pool3 : Array CpInfo := pool [(1, .class_ 2), (0, u "java/lang/Comparable"), (0, .class_ 4), (0, u "java/lang/Object")] 7

/-- java/lang/Comparable -/
def k3 : Class := { plain "java/lang/Comparable" (some 0) with
  accessFlags := 1537
  interfaces := #[]
  cf := some (fileOf pool3 1 #[] #[] 1537 3 #[] #[])
  fields := #[]
  methods := #[]
  instanceTypes := #[]
  staticTypes := #[]
  resolved := Array.replicate 12 none
  statics := none }

def pool4 : Array CpInfo := pool [(2, .class_ 4), (1, u "java/lang/CharSequence"), (42, .class_ 48), (0, u "java/lang/CharSequence$1CodePointIterator"), (10, .class_ 60), (0, u "java/lang/CharSequence$1CharIterator"), (5, .class_ 67), (0, u "java/lang/Object")] 63

/-- java/lang/CharSequence -/
def k4 : Class := { plain "java/lang/CharSequence" (some 0) with
  accessFlags := 1537
  interfaces := #[]
  cf := some (fileOf pool4 2 #[.nestMembers #[47, 59]] #[] 1537 66 #[] #[])
  fields := #[]
  methods := #[]
  instanceTypes := #[]
  staticTypes := #[]
  resolved := Array.replicate 131 none
  statics := none }

def pool5 : Array CpInfo := pool [(1, .class_ 2), (0, u "java/lang/constant/Constable"), (0, .class_ 4), (0, u "java/lang/Object")] 6

/-- java/lang/constant/Constable -/
def k5 : Class := { plain "java/lang/constant/Constable" (some 0) with
  accessFlags := 1537
  interfaces := #[]
  cf := some (fileOf pool5 1 #[] #[] 1537 3 #[] #[])
  fields := #[]
  methods := #[]
  instanceTypes := #[]
  staticTypes := #[]
  resolved := Array.replicate 11 none
  statics := none }

def pool6 : Array CpInfo := pool [(1, .class_ 2), (0, u "java/lang/constant/ConstantDesc"), (0, .class_ 4), (0, u "java/lang/Object")] 32

/-- java/lang/constant/ConstantDesc -/
def k6 : Class := { plain "java/lang/constant/ConstantDesc" (some 0) with
  accessFlags := 1537
  interfaces := #[]
  cf := some (fileOf pool6 1 #[] #[] 1537 3 #[] #[])
  fields := #[]
  methods := #[]
  instanceTypes := #[]
  staticTypes := #[]
  resolved := Array.replicate 37 none
  statics := none }

def pool7 : Array CpInfo := pool [(1, .methodref 2 3), (0, .class_ 4), (0, .nameAndType 5 6), (0, u "java/lang/Object"), (0, u "<init>"), (0, u "()V"), (0, .string 8), (0, u ""), (0, .fieldref 10 11), (0, .class_ 12), (0, .nameAndType 13 14), (0, u "java/lang/String"), (0, u "value"), (0, u "[B"), (0, .fieldref 10 16), (0, .nameAndType 17 18), (0, u "coder"), (0, u "B"), (2, u "hash"), (0, u "I"), (2, u "hashIsZero"), (0, u "Z"), (0, .methodref 10 28), (0, .nameAndType 5 29), (0, u "([CIILjava/lang/Void;)V"), (6, u "checkBoundsOffCount"), (0, u "(III)I"), (0, .fieldref 10 39), (0, .nameAndType 40 26), (0, u "COMPACT_STRINGS"), (1, .class_ 44), (1, u "java/lang/StringUTF16"), (0, u "compress"), (1, .methodref 42 48), (0, .nameAndType 49 50), (0, u "coderFromArrayLen"), (0, u "([BI)B"), (2, u "toBytes"), (0, .methodref 55 56), (0, .class_ 57), (0, .nameAndType 58 59), (0, u "java/util/Arrays"), (0, u "copyOfRange"), (0, u "([BII)[B"), (46, .methodref 107 108), (0, .class_ 109), (0, .nameAndType 110 111), (0, u "java/lang/StringLatin1"), (0, u "inflate"), (0, u "([BI[BII)V"), (30, u "()Z"), (34, .methodref 42 178), (0, .nameAndType 45 179), (0, u "([CII)[B"), (13, .class_ 195), (1, u "java/lang/System"), (13, .methodref 10 210), (0, .nameAndType 5 211), (0, u "([BB)V"), (0, .methodref 193 213), (0, .nameAndType 214 215), (0, u "arraycopy"), (0, u "(Ljava/lang/Object;ILjava/lang/Object;II)V"), (118, u "()I"), (0, .methodref 10 336), (0, .nameAndType 17 337), (0, u "()B"), (2, u "()[B"), (28, u "(C)Z"), (119, .methodref 10 490), (0, .nameAndType 5 491), (0, u "(Ljava/lang/AbstractStringBuilder;Ljava/lang/Void;)V"), (1, .nameAndType 494 142), (0, u "isLatin1"), (11, .nameAndType 507 334), (0, u "length"), (24, u "getBytes"), (8, .methodref 107 542), (0, .nameAndType 543 544), (0, u "equals"), (0, u "([B[B)Z"), (4, .methodref 550 506), (0, .class_ 551), (0, u "java/lang/AbstractStringBuilder"), (0, .methodref 550 553), (0, .nameAndType 554 340), (0, u "getValue"), (18, u "(Ljava/lang/Object;)Z"), (1, .class_ 576), (0, u "java/lang/CharSequence"), (22, u "CASE_INSENSITIVE_ORDER"), (0, u "Ljava/util/Comparator;"), (181, u "valueOf"), (0, u "(C)Ljava/lang/String;"), (37, u "([BIB)V"), (188, u "([C)V"), (4, .methodref 107 1016), (0, .nameAndType 1017 369), (0, u "canEncode"), (0, .methodref 107 1019), (0, .nameAndType 53 1020), (0, u "(C)[B"), (0, .methodref 42 1019), (25, .methodref 550 493), (0, .fieldref 550 1049), (0, .nameAndType 1050 26), (0, u "maybeLatin1"), (2, .fieldref 1054 1055), (0, .class_ 1056), (0, .nameAndType 1057 1058), (0, u "jdk/internal/util/Preconditions"), (0, u "SIOOBE_FORMATTER"), (0, u "Ljava/util/function/BiFunction;"), (5, u "(IIILjava/util/function/BiFunction;)I"), (0, .methodref 1054 1066), (0, .nameAndType 1067 1064), (0, u "checkFromIndexSize"), (33, u "serialPersistentFields"), (0, u "[Ljava/io/ObjectStreamField;"), (0, .class_ 1104), (0, u "java/lang/String$CaseInsensitiveComparator"), (1, .class_ 1107), (0, u "java/io/Serializable"), (0, .class_ 1109), (0, u "java/lang/Comparable"), (0, .class_ 1111), (0, u "java/lang/constant/Constable"), (0, .class_ 1113), (0, u "java/lang/constant/ConstantDesc"), (2, u "serialVersionUID"), (0, u "J"), (3, u "REPL"), (0, u "C"), (2, u "LATIN1"), (1, u "UTF16"), (105, u "(Ljava/lang/StringBuilder;)V")] 217

def k7m0 : Method := mt "<init>" "()V" [] none 1 none
def k7c1 : Code := co 5 2 jdk_42_method_3_code
def k7m1 : Method := mt "<init>" "([C)V" [(.array .char)] none 1 (some k7c1)
def k7c2 : Code := co 3 2 jdk_42_method_53_code
def k7m2 : Method := mt "<init>" "(Ljava/lang/StringBuilder;)V" [(.object "java/lang/StringBuilder")] none 1 (some k7c2)
def k7c3 : Code := co 2 1 jdk_42_method_54_code
def k7m3 : Method := mt "length" "()I" [] (some .int) 1 (some k7c3)
def k7c4 : Code := co 2 3 jdk_42_method_66_code
def k7m4 : Method := mt "equals" "(Ljava/lang/Object;)Z" [(.object "java/lang/Object")] (some .boolean) 1 (some k7c4)
def k7c5 : Code := co 4 1 jdk_42_method_139_code
def k7m5 : Method := mt "valueOf" "(C)Ljava/lang/String;" [.char] (some (.object "java/lang/String")) 9 (some k7c5)
def k7c6 : Code := co 5 4 jdk_42_method_147_code
def k7m6 : Method := mt "getBytes" "([BIB)V" [(.array .byte), .int, .byte] none 0 (some k7c6)
def k7c7 : Code := co 4 6 jdk_42_method_149_code
def k7m7 : Method := mt "<init>" "([CIILjava/lang/Void;)V" [(.array .char), .int, .int, (.object "java/lang/Void")] none 2 (some k7c7)
def k7c8 : Code := co 5 5 jdk_42_method_150_code
def k7m8 : Method := mt "<init>" "(Ljava/lang/AbstractStringBuilder;Ljava/lang/Void;)V" [(.object "java/lang/AbstractStringBuilder"), (.object "java/lang/Void")] none 0 (some k7c8)
def k7c9 : Code := co 2 3 jdk_42_method_151_code
def k7m9 : Method := mt "<init>" "([BB)V" [(.array .byte), .byte] none 0 (some k7c9)
def k7c10 : Code := co 1 1 jdk_42_method_152_code
def k7m10 : Method := mt "coder" "()B" [] (some .byte) 0 (some k7c10)
def k7c11 : Code := co 4 3 jdk_42_method_157_code
def k7m11 : Method := mt "checkBoundsOffCount" "(III)I" [.int, .int, .int] (some .int) 8 (some k7c11)
/-- java/lang/String -/
def k7 : Class := { plain "java/lang/String" (some 0) with
  accessFlags := 49
  interfaces := #[2, 3, 4, 5, 6]
  cf := some (fileOf pool7 10 #[.nestMembers #[1103]] #[⟨1, 5, 6, #[]⟩, ⟨1, 5, 1010, #[]⟩, ⟨1, 5, 1233, #[]⟩, ⟨1, 507, 334, #[]⟩, ⟨1, 543, 573, #[]⟩, ⟨9, 782, 783, #[]⟩, ⟨0, 532, 821, #[]⟩, ⟨2, 5, 29, #[]⟩, ⟨0, 5, 491, #[]⟩, ⟨0, 5, 211, #[]⟩, ⟨0, 17, 337, #[]⟩, ⟨8, 36, 37, #[]⟩] 49 2 #[1106, 1108, 575, 1110, 1112] #[⟨18, 13, 14, #[]⟩, ⟨18, 17, 18, #[]⟩, ⟨2, 21, 22, #[]⟩, ⟨2, 25, 26, #[]⟩, ⟨26, 1116, 1117, #[]⟩, ⟨24, 40, 26, #[]⟩, ⟨26, 1101, 1102, #[]⟩, ⟨26, 1121, 1122, #[]⟩, ⟨25, 599, 600, #[]⟩, ⟨24, 1125, 18, #[]⟩, ⟨24, 1127, 18, #[]⟩])
  fields := #[fd "value" (.array .byte) 18 0, fd "coder" .byte 18 1, fd "hash" .int 2 2, fd "hashIsZero" .boolean 2 3, fd "serialVersionUID" .long 26 0, fd "COMPACT_STRINGS" .boolean 24 1, fd "serialPersistentFields" (.array (.object "java/io/ObjectStreamField")) 26 2, fd "REPL" .char 26 3, fd "CASE_INSENSITIVE_ORDER" (.object "java/util/Comparator") 25 4, fd "LATIN1" .byte 24 5, fd "UTF16" .byte 24 6]
  methods := #[k7m0, k7m1, k7m2, k7m3, k7m4, k7m5, k7m6, k7m7, k7m8, k7m9, k7m10, k7m11]
  instanceTypes := #[(.array .byte), .byte, .int, .boolean]
  staticTypes := #[.long, .boolean, (.array (.object "java/io/ObjectStreamField")), .char, (.object "java/util/Comparator"), .byte, .byte]
  resolved := Array.replicate 1451 none
  statics := some 0 }

def pool8 : Array CpInfo := pool [(1, .methodref 2 3), (0, .class_ 4), (0, .nameAndType 5 6), (0, u "java/lang/Object"), (0, u "<init>"), (0, u "()V"), (0, .fieldref 8 9), (0, .class_ 10), (0, .nameAndType 11 12), (0, u "java/lang/Throwable"), (0, u "cause"), (0, u "Ljava/lang/Throwable;"), (0, .fieldref 8 14), (0, .nameAndType 15 16), (0, u "UNASSIGNED_STACK"), (0, u "[Ljava/lang/StackTraceElement;"), (0, .fieldref 8 18), (0, .nameAndType 19 16), (0, u "stackTrace"), (0, .fieldref 8 21), (0, .nameAndType 22 23), (0, u "SUPPRESSED_SENTINEL"), (0, u "Ljava/util/List;"), (0, .fieldref 8 25), (0, .nameAndType 26 23), (0, u "suppressedExceptions"), (4, .fieldref 8 32), (0, .nameAndType 33 34), (0, u "detailMessage"), (0, u "Ljava/lang/String;"), (3, u "()Ljava/lang/String;"), (2, u "getMessage"), (51, .class_ 94), (0, u "java/lang/Throwable$WrappedPrintStream"), (6, .class_ 103), (1, u "java/lang/Throwable$PrintStreamOrWriter"), (61, u "$assertionsDisabled"), (0, u "Z"), (26, .class_ 194), (0, u "java/lang/Throwable$WrappedPrintWriter"), (5, u "backtrace"), (0, u "Ljava/lang/Object;"), (9, u "depth"), (0, u "I"), (56, .class_ 271), (1, u "java/lang/Throwable$SentinelHolder"), (32, u "EMPTY_THROWABLE_ARRAY"), (0, u "[Ljava/lang/Throwable;"), (12, .class_ 319), (0, u "java/io/Serializable"), (0, u "serialVersionUID"), (0, u "J"), (5, u "NULL_CAUSE_MESSAGE"), (0, u "SELF_SUPPRESSION_MESSAGE"), (0, u "CAUSE_CAPTION"), (0, u "SUPPRESSED_CAPTION"), (9, u "(Ljava/lang/String;Ljava/lang/Throwable;ZZ)V")] 63

def k8m0 : Method := mt "<init>" "()V" [] none 1 none
def k8c1 : Code := co 2 5 jdk_78_method_5_code
def k8m1 : Method := mt "<init>" "(Ljava/lang/String;Ljava/lang/Throwable;ZZ)V" [(.object "java/lang/String"), (.object "java/lang/Throwable"), .boolean, .boolean] none 4 (some k8c1)
def k8c2 : Code := co 1 1 jdk_78_method_6_code
def k8m2 : Method := mt "getMessage" "()Ljava/lang/String;" [] (some (.object "java/lang/String")) 1 (some k8c2)
/-- java/lang/Throwable -/
def k8 : Class := { plain "java/lang/Throwable" (some 0) with
  accessFlags := 33
  interfaces := #[2]
  cf := some (fileOf pool8 8 #[.nestMembers #[193, 93, 101, 269]] #[⟨1, 5, 6, #[]⟩, ⟨4, 5, 340, #[]⟩, ⟨1, 41, 38, #[]⟩] 33 2 #[318] #[⟨26, 320, 321, #[]⟩, ⟨130, 200, 201, #[]⟩, ⟨2, 33, 34, #[]⟩, ⟨26, 15, 16, #[]⟩, ⟨2, 11, 12, #[]⟩, ⟨2, 19, 16, #[]⟩, ⟨130, 211, 212, #[]⟩, ⟨26, 22, 23, #[]⟩, ⟨2, 26, 23, #[]⟩, ⟨26, 327, 34, #[]⟩, ⟨26, 328, 34, #[]⟩, ⟨26, 329, 34, #[]⟩, ⟨26, 330, 34, #[]⟩, ⟨26, 304, 305, #[]⟩, ⟨4120, 165, 166, #[]⟩])
  fields := #[fd "serialVersionUID" .long 26 0, fd "backtrace" (.object "java/lang/Object") 130 0, fd "detailMessage" (.object "java/lang/String") 2 1, fd "UNASSIGNED_STACK" (.array (.object "java/lang/StackTraceElement")) 26 1, fd "cause" (.object "java/lang/Throwable") 2 2, fd "stackTrace" (.array (.object "java/lang/StackTraceElement")) 2 3, fd "depth" .int 130 4, fd "SUPPRESSED_SENTINEL" (.object "java/util/List") 26 2, fd "suppressedExceptions" (.object "java/util/List") 2 5, fd "NULL_CAUSE_MESSAGE" (.object "java/lang/String") 26 3, fd "SELF_SUPPRESSION_MESSAGE" (.object "java/lang/String") 26 4, fd "CAUSE_CAPTION" (.object "java/lang/String") 26 5, fd "SUPPRESSED_CAPTION" (.object "java/lang/String") 26 6, fd "EMPTY_THROWABLE_ARRAY" (.array (.object "java/lang/Throwable")) 26 7, fd "$assertionsDisabled" .boolean 4120 8]
  methods := #[k8m0, k8m1, k8m2]
  instanceTypes := #[(.object "java/lang/Object"), (.object "java/lang/String"), (.object "java/lang/Throwable"), (.array (.object "java/lang/StackTraceElement")), .int, (.object "java/util/List")]
  staticTypes := #[.long, (.array (.object "java/lang/StackTraceElement")), (.object "java/util/List"), (.object "java/lang/String"), (.object "java/lang/String"), (.object "java/lang/String"), (.object "java/lang/String"), (.array (.object "java/lang/Throwable")), .boolean]
  resolved := Array.replicate 404 none
  statics := some 1 }

def pool9 : Array CpInfo := pool [(2, .class_ 4), (1, u "java/lang/Throwable"), (0, u "<init>"), (0, u "()V"), (9, .methodref 2 17), (0, .nameAndType 5 18), (0, u "(Ljava/lang/String;Ljava/lang/Throwable;ZZ)V"), (0, .class_ 20), (0, u "java/lang/Exception"), (0, u "serialVersionUID"), (0, u "J")] 17

def k9m0 : Method := mt "<init>" "()V" [] none 1 none
def k9c1 : Code := co 5 5 jdk_59_method_5_code
def k9m1 : Method := mt "<init>" "(Ljava/lang/String;Ljava/lang/Throwable;ZZ)V" [(.object "java/lang/String"), (.object "java/lang/Throwable"), .boolean, .boolean] none 4 (some k9c1)
/-- java/lang/Exception -/
def k9 : Class := { plain "java/lang/Exception" (some 8) with
  accessFlags := 33
  interfaces := #[]
  cf := some (fileOf pool9 19 #[] #[⟨1, 5, 6, #[]⟩, ⟨4, 5, 18, #[]⟩] 33 2 #[] #[⟨24, 21, 22, #[]⟩])
  fields := #[fd "serialVersionUID" .long 24 0]
  methods := #[k9m0, k9m1]
  instanceTypes := #[(.object "java/lang/Object"), (.object "java/lang/String"), (.object "java/lang/Throwable"), (.array (.object "java/lang/StackTraceElement")), .int, (.object "java/util/List")]
  staticTypes := #[.long]
  resolved := Array.replicate 40 none
  statics := none }

def pool10 : Array CpInfo := pool [(1, .methodref 2 3), (0, .class_ 4), (0, .nameAndType 5 6), (0, u "java/lang/Exception"), (0, u "<init>"), (0, u "(Ljava/lang/String;Ljava/lang/Throwable;ZZ)V"), (0, .fieldref 8 9), (0, .class_ 10), (0, .nameAndType 11 12), (0, u "com/example/orderly_storefront/orderlystorefront/cart/CartException"), (0, u "reason"), (0, u "Lcom/example/orderly_storefront/orderlystorefront/cart/CartException$Reason;"), (0, .fieldref 14 15), (0, .class_ 16), (0, .nameAndType 17 12), (0, u "com/example/orderly_storefront/orderlystorefront/cart/CartException$Reason"), (0, u "INVALID_QUANTITY"), (0, .class_ 19), (0, u "java/lang/StringBuilder"), (0, .methodref 18 21), (0, .nameAndType 5 22), (0, u "()V"), (2, .string 26), (0, u "A line holds an integer from 1 to 1000000 of its variant, not "), (0, .methodref 18 28), (0, .nameAndType 29 30), (0, u "append"), (0, u "(Ljava/lang/String;)Ljava/lang/StringBuilder;"), (0, .string 32), (0, u "."), (0, .methodref 18 34), (0, .nameAndType 35 36), (0, u "toString"), (0, u "()Ljava/lang/String;"), (0, .methodref 8 38), (0, .nameAndType 5 39), (0, u "(Lcom/example/orderly_storefront/orderlystorefront/cart/CartException$Reason;Ljava/lang/String;)V"), (0, u "serialVersionUID"), (0, u "J"), (5, u "invalidQuantity"), (0, u "(Ljava/lang/String;)Lcom/example/orderly_storefront/orderlystorefront/cart/CartException;"), (0, u "()Lcom/example/orderly_storefront/orderlystorefront/cart/CartException$Reason;")] 5

def k10c0 : Code := co 5 3 prog_5_method_1_code
def k10m0 : Method := mt "<init>" "(Lcom/example/orderly_storefront/orderlystorefront/cart/CartException$Reason;Ljava/lang/String;)V" [(.object "com/example/orderly_storefront/orderlystorefront/cart/CartException$Reason"), (.object "java/lang/String")] none 0 (some k10c0)
def k10c1 : Code := co 5 1 prog_5_method_2_code
def k10m1 : Method := mt "invalidQuantity" "(Ljava/lang/String;)Lcom/example/orderly_storefront/orderlystorefront/cart/CartException;" [(.object "java/lang/String")] (some (.object "com/example/orderly_storefront/orderlystorefront/cart/CartException")) 9 (some k10c1)
def k10c2 : Code := co 1 1 prog_5_method_3_code
def k10m2 : Method := mt "reason" "()Lcom/example/orderly_storefront/orderlystorefront/cart/CartException$Reason;" [] (some (.object "com/example/orderly_storefront/orderlystorefront/cart/CartException$Reason")) 1 (some k10c2)
/-- com/example/orderly_storefront/orderlystorefront/cart/CartException -/
def k10 : Class := { plain "com/example/orderly_storefront/orderlystorefront/cart/CartException" (some 9) with
  accessFlags := 49
  interfaces := #[]
  cf := some (fileOf pool10 8 #[.nestMembers #[14]] #[⟨0, 5, 39, #[]⟩, ⟨9, 47, 48, #[]⟩, ⟨1, 11, 49, #[]⟩] 49 2 #[] #[⟨26, 40, 41, #[]⟩, ⟨18, 11, 12, #[]⟩])
  fields := #[fd "serialVersionUID" .long 26 0, fd "reason" (.object "com/example/orderly_storefront/orderlystorefront/cart/CartException$Reason") 18 6]
  methods := #[k10m0, k10m1, k10m2]
  instanceTypes := #[(.object "java/lang/Object"), (.object "java/lang/String"), (.object "java/lang/Throwable"), (.array (.object "java/lang/StackTraceElement")), .int, (.object "java/util/List"), (.object "com/example/orderly_storefront/orderlystorefront/cart/CartException$Reason")]
  staticTypes := #[.long]
  resolved := Array.replicate 55 none
  statics := none }

def pool11 : Array CpInfo := pool [(2, .class_ 4), (1, u "java/lang/Enum"), (0, u "name"), (0, u "Ljava/lang/String;"), (2, u "ordinal"), (0, u "I"), (1, .class_ 14), (1, u "java/lang/Object"), (4, u "hash"), (86, .class_ 108), (1, u "java/lang/Enum$EnumDesc"), (2, .class_ 112), (0, u "java/lang/constant/Constable"), (0, .class_ 114), (0, u "java/lang/Comparable"), (0, .class_ 116), (0, u "java/io/Serializable")] 87

/-- java/lang/Enum -/
def k11 : Class := { plain "java/lang/Enum" (some 0) with
  accessFlags := 1057
  interfaces := #[5, 3, 2]
  cf := some (fileOf pool11 2 #[.nestMembers #[106]] #[] 1057 12 #[111, 113, 115] #[⟨18, 5, 6, #[]⟩, ⟨18, 9, 10, #[]⟩, ⟨2, 19, 10, #[]⟩])
  fields := #[fd "name" (.object "java/lang/String") 18 0, fd "ordinal" .int 18 1, fd "hash" .int 2 2]
  methods := #[]
  instanceTypes := #[(.object "java/lang/String"), .int, .int]
  staticTypes := #[]
  resolved := Array.replicate 204 none
  statics := none }

def pool12 : Array CpInfo := pool [(1, .class_ 2), (0, u "com/example/orderly_storefront/orderlystorefront/cart/CartException$Reason"), (2, u "NO_CART"), (0, u "Lcom/example/orderly_storefront/orderlystorefront/cart/CartException$Reason;"), (2, u "NO_VARIANT"), (2, u "NO_ITEM"), (2, u "INVALID_QUANTITY"), (2, u "INSUFFICIENT_STOCK"), (2, u "ORDERED"), (2, u "$VALUES"), (0, u "[Lcom/example/orderly_storefront/orderlystorefront/cart/CartException$Reason;"), (6, .class_ 34), (1, u "java/lang/Enum"), (29, .class_ 65), (0, u "com/example/orderly_storefront/orderlystorefront/cart/CartException")] 2

/-- com/example/orderly_storefront/orderlystorefront/cart/CartException$Reason -/
def k12 : Class := { plain "com/example/orderly_storefront/orderlystorefront/cart/CartException$Reason" (some 11) with
  accessFlags := 16433
  interfaces := #[]
  cf := some (fileOf pool12 1 #[.nestHost 64] #[] 16433 32 #[] #[⟨16409, 5, 6, #[]⟩, ⟨16409, 9, 6, #[]⟩, ⟨16409, 12, 6, #[]⟩, ⟨16409, 15, 6, #[]⟩, ⟨16409, 18, 6, #[]⟩, ⟨16409, 21, 6, #[]⟩, ⟨4122, 24, 25, #[]⟩])
  fields := #[fd "NO_CART" (.object "com/example/orderly_storefront/orderlystorefront/cart/CartException$Reason") 16409 0, fd "NO_VARIANT" (.object "com/example/orderly_storefront/orderlystorefront/cart/CartException$Reason") 16409 1, fd "NO_ITEM" (.object "com/example/orderly_storefront/orderlystorefront/cart/CartException$Reason") 16409 2, fd "INVALID_QUANTITY" (.object "com/example/orderly_storefront/orderlystorefront/cart/CartException$Reason") 16409 3, fd "INSUFFICIENT_STOCK" (.object "com/example/orderly_storefront/orderlystorefront/cart/CartException$Reason") 16409 4, fd "ORDERED" (.object "com/example/orderly_storefront/orderlystorefront/cart/CartException$Reason") 16409 5, fd "$VALUES" (.array (.object "com/example/orderly_storefront/orderlystorefront/cart/CartException$Reason")) 4122 6]
  methods := #[]
  instanceTypes := #[(.object "java/lang/String"), .int, .int]
  staticTypes := #[(.object "com/example/orderly_storefront/orderlystorefront/cart/CartException$Reason"), (.object "com/example/orderly_storefront/orderlystorefront/cart/CartException$Reason"), (.object "com/example/orderly_storefront/orderlystorefront/cart/CartException$Reason"), (.object "com/example/orderly_storefront/orderlystorefront/cart/CartException$Reason"), (.object "com/example/orderly_storefront/orderlystorefront/cart/CartException$Reason"), (.object "com/example/orderly_storefront/orderlystorefront/cart/CartException$Reason"), (.array (.object "com/example/orderly_storefront/orderlystorefront/cart/CartException$Reason"))]
  resolved := Array.replicate 68 none
  statics := some 2 }

def pool13 : Array CpInfo := pool [(1, .class_ 2), (0, u "java/lang/Appendable"), (0, .class_ 4), (0, u "java/lang/Object")] 9

/-- java/lang/Appendable -/
def k13 : Class := { plain "java/lang/Appendable" (some 0) with
  accessFlags := 1537
  interfaces := #[]
  cf := some (fileOf pool13 1 #[] #[] 1537 3 #[] #[])
  fields := #[]
  methods := #[]
  instanceTypes := #[]
  staticTypes := #[]
  resolved := Array.replicate 14 none
  statics := none }

def pool14 : Array CpInfo := pool [(1, .class_ 2), (0, u "java/lang/String"), (0, .methodref 4 5), (0, .class_ 6), (0, .nameAndType 7 8), (0, u "java/lang/Object"), (0, u "<init>"), (0, u "()V"), (1, .class_ 12), (1, u "java/lang/AbstractStringBuilder"), (0, u "EMPTYVALUE"), (0, u "[B"), (0, .fieldref 10 16), (0, .nameAndType 17 14), (0, u "value"), (0, .fieldref 1 19), (0, .nameAndType 20 21), (0, u "COMPACT_STRINGS"), (0, u "Z"), (0, .fieldref 10 23), (0, .nameAndType 24 25), (0, u "coder"), (0, u "B"), (0, .methodref 27 28), (0, .class_ 29), (0, .nameAndType 30 31), (0, u "java/lang/StringUTF16"), (0, u "newBytesFor"), (0, u "(I)[B"), (0, .methodref 1 33), (0, .nameAndType 34 35), (0, u "length"), (0, u "()I"), (3, .integer 2147483647), (0, .methodref 1 41), (0, .nameAndType 24 42), (0, u "()B"), (2, u "append"), (0, u "(Ljava/lang/String;)Ljava/lang/AbstractStringBuilder;"), (1, .class_ 49), (0, u "java/lang/CharSequence"), (19, u "(Ljava/lang/String;)V"), (5, u "maybeLatin1"), (3, .fieldref 10 80), (0, .nameAndType 81 82), (0, u "count"), (0, u "I"), (0, .methodref 10 84), (0, .nameAndType 85 86), (0, u "isLatin1"), (0, u "()Z"), (1, .class_ 90), (1, u "java/lang/StringLatin1"), (9, .methodref 10 101), (0, .nameAndType 102 103), (0, u "ensureCapacityInternal"), (0, u "(I)V"), (0, .methodref 10 105), (0, .nameAndType 106 107), (0, u "newCapacity"), (0, u "(I)I"), (0, .methodref 109 110), (0, .class_ 111), (0, .nameAndType 112 113), (0, u "java/util/Arrays"), (0, u "copyOf"), (0, u "([BI)[B"), (0, .methodref 115 116), (0, .class_ 117), (0, .nameAndType 118 119), (0, u "jdk/internal/util/ArraysSupport"), (0, u "newLength"), (0, u "(III)I"), (5, .methodref 88 126), (0, .nameAndType 127 128), (0, u "inflate"), (0, u "([BI[BII)V"), (66, .methodref 10 196), (0, .nameAndType 127 8), (11, .methodref 10 209), (0, .nameAndType 210 211), (0, u "putStringAt"), (0, u "(ILjava/lang/String;)V"), (5, u "inflateIfNeededFor"), (2, .nameAndType 221 222), (0, u "getBytes"), (0, u "([BIB)V"), (174, .methodref 10 398), (0, .nameAndType 217 69), (0, .methodref 1 220), (3, u "()[B"), (40, .class_ 445), (0, u "java/lang/Appendable"), (106, u "getValue")] 56

def k14m0 : Method := mt "<init>" "()V" [] none 0 none
def k14c1 : Code := co 2 2 jdk_68_method_2_code
def k14m1 : Method := mt "<init>" "(I)V" [.int] none 0 (some k14c1)
def k14c2 : Code := co 1 1 jdk_68_method_6_code
def k14m2 : Method := mt "length" "()I" [] (some .int) 1 (some k14c2)
def k14c3 : Code := co 4 3 jdk_68_method_9_code
def k14m3 : Method := mt "ensureCapacityInternal" "(I)V" [.int] none 2 (some k14c3)
def k14c4 : Code := co 5 6 jdk_68_method_10_code
def k14m4 : Method := mt "newCapacity" "(I)I" [.int] (some .int) 2 (some k14c4)
def k14c5 : Code := co 5 2 jdk_68_method_11_code
def k14m5 : Method := mt "inflate" "()V" [] none 2 (some k14c5)
def k14c6 : Code := co 3 3 jdk_68_method_22_code
def k14m6 : Method := mt "append" "(Ljava/lang/String;)Ljava/lang/AbstractStringBuilder;" [(.object "java/lang/String")] (some (.object "java/lang/AbstractStringBuilder")) 1 (some k14c6)
def k14c7 : Code := co 1 1 jdk_68_method_64_code
def k14m7 : Method := mt "getValue" "()[B" [] (some (.array .byte)) 16 (some k14c7)
def k14c8 : Code := co 1 1 jdk_68_method_68_code
def k14m8 : Method := mt "isLatin1" "()Z" [] (some .boolean) 16 (some k14c8)
def k14c9 : Code := co 2 2 jdk_68_method_71_code
def k14m9 : Method := mt "inflateIfNeededFor" "(Ljava/lang/String;)V" [(.object "java/lang/String")] none 2 (some k14c9)
def k14c10 : Code := co 4 3 jdk_68_method_73_code
def k14m10 : Method := mt "putStringAt" "(ILjava/lang/String;)V" [.int, (.object "java/lang/String")] none 2 (some k14c10)
/-- java/lang/AbstractStringBuilder -/
def k14 : Class := { plain "java/lang/AbstractStringBuilder" (some 0) with
  accessFlags := 1056
  interfaces := #[13, 4]
  cf := some (fileOf pool14 10 #[] #[⟨0, 7, 8, #[]⟩, ⟨0, 7, 103, #[]⟩, ⟨1, 34, 35, #[]⟩, ⟨2, 102, 103, #[]⟩, ⟨2, 106, 107, #[]⟩, ⟨2, 127, 8, #[]⟩, ⟨1, 45, 46, #[]⟩, ⟨16, 552, 403, #[]⟩, ⟨16, 85, 86, #[]⟩, ⟨2, 217, 69, #[]⟩, ⟨2, 210, 211, #[]⟩] 1056 4 #[444, 48] #[⟨0, 17, 14, #[]⟩, ⟨0, 24, 25, #[]⟩, ⟨0, 75, 21, #[]⟩, ⟨0, 81, 82, #[]⟩, ⟨26, 13, 14, #[]⟩])
  fields := #[fd "value" (.array .byte) 0 0, fd "coder" .byte 0 1, fd "maybeLatin1" .boolean 0 2, fd "count" .int 0 3, fd "EMPTYVALUE" (.array .byte) 26 0]
  methods := #[k14m0, k14m1, k14m2, k14m3, k14m4, k14m5, k14m6, k14m7, k14m8, k14m9, k14m10]
  instanceTypes := #[(.array .byte), .byte, .boolean, .int]
  staticTypes := #[(.array .byte)]
  resolved := Array.replicate 609 none
  statics := none }

def pool15 : Array CpInfo := pool [(1, .methodref 2 3), (0, .class_ 4), (0, .nameAndType 5 6), (0, u "java/lang/AbstractStringBuilder"), (0, u "<init>"), (0, u "(I)V"), (11, .class_ 20), (1, u "java/lang/String"), (3, .class_ 26), (1, u "java/lang/StringBuilder"), (0, u "append"), (0, u "(Ljava/lang/String;)Ljava/lang/StringBuilder;"), (0, .methodref 2 30), (0, .nameAndType 27 31), (0, u "(Ljava/lang/String;)Ljava/lang/AbstractStringBuilder;"), (105, .methodref 18 138), (0, .nameAndType 5 139), (0, u "(Ljava/lang/StringBuilder;)V"), (5, u "()V"), (10, u "()I"), (186, .methodref 2 344), (0, .nameAndType 345 156), (0, u "length"), (3, .class_ 350), (0, u "java/lang/Appendable"), (0, .class_ 352), (0, u "java/io/Serializable"), (0, .class_ 354), (0, u "java/lang/Comparable"), (0, .class_ 356), (0, u "java/lang/CharSequence"), (0, u "serialVersionUID"), (0, u "J"), (40, u "toString"), (0, u "()Ljava/lang/String;")] 21

def k15c0 : Code := co 2 1 jdk_67_method_1_code
def k15m0 : Method := mt "<init>" "()V" [] none 1 (some k15c0)
def k15c1 : Code := co 2 2 jdk_67_method_7_code
def k15m1 : Method := mt "append" "(Ljava/lang/String;)Ljava/lang/StringBuilder;" [(.object "java/lang/String")] (some (.object "java/lang/StringBuilder")) 1 (some k15c1)
def k15c2 : Code := co 3 1 jdk_67_method_42_code
def k15m2 : Method := mt "toString" "()Ljava/lang/String;" [] (some (.object "java/lang/String")) 1 (some k15c2)
def k15c3 : Code := co 1 1 jdk_67_method_93_code
def k15m3 : Method := mt "length" "()I" [] (some .int) 4161 (some k15c3)
/-- java/lang/StringBuilder -/
def k15 : Class := { plain "java/lang/StringBuilder" (some 14) with
  accessFlags := 49
  interfaces := #[13, 2, 3, 4]
  cf := some (fileOf pool15 24 #[] #[⟨1, 5, 145, #[]⟩, ⟨1, 27, 28, #[]⟩, ⟨1, 399, 400, #[]⟩, ⟨4161, 345, 156, #[]⟩] 49 2 #[349, 351, 353, 355] #[⟨24, 357, 358, #[]⟩])
  fields := #[fd "serialVersionUID" .long 24 0]
  methods := #[k15m0, k15m1, k15m2, k15m3]
  instanceTypes := #[(.array .byte), .byte, .boolean, .int]
  staticTypes := #[.long]
  resolved := Array.replicate 422 none
  statics := none }

def pool16 : Array CpInfo := pool [(9, u "<init>"), (6, .class_ 18), (1, u "java/lang/Object"), (0, u "()V"), (1, .class_ 23), (1, u "jdk/internal/util/ArraysSupport"), (0, u "LOG2_ARRAY_LONG_INDEX_SCALE"), (0, u "I"), (2, u "U"), (0, u "Ljdk/internal/misc/Unsafe;"), (8, u "BIG_ENDIAN"), (0, u "Z"), (8, u "LOG2_BYTE_BIT_SIZE"), (4, u "LOG2_ARRAY_INT_INDEX_SCALE"), (54, u "JLA"), (0, u "Ljdk/internal/access/JavaLangAccess;"), (11, u "LOG2_ARRAY_BOOLEAN_INDEX_SCALE"), (9, u "LOG2_ARRAY_BYTE_INDEX_SCALE"), (5, u "LOG2_ARRAY_CHAR_INDEX_SCALE"), (5, u "LOG2_ARRAY_SHORT_INDEX_SCALE"), (18, u "LOG2_ARRAY_FLOAT_INDEX_SCALE"), (24, u "LOG2_ARRAY_DOUBLE_INDEX_SCALE"), (6, .methodref 195 196), (0, .class_ 197), (0, .nameAndType 198 199), (0, u "java/lang/Math"), (0, u "max"), (0, u "(II)I"), (0, .integer 2147483639), (76, u "T_BOOLEAN"), (2, u "T_CHAR"), (1, u "T_FLOAT"), (1, u "T_DOUBLE"), (1, u "T_BYTE"), (1, u "T_SHORT"), (1, u "T_INT"), (1, u "T_LONG"), (1, u "SOFT_MAX_ARRAY_LENGTH"), (56, u "newLength"), (0, u "(III)I")] 25

def k16m0 : Method := mt "<init>" "()V" [] none 2 none
def k16c1 : Code := co 3 4 jdk_48_method_27_code
def k16m1 : Method := mt "newLength" "(III)I" [.int, .int, .int] (some .int) 9 (some k16c1)
/-- jdk/internal/util/ArraysSupport -/
def k16 : Class := { plain "jdk/internal/util/ArraysSupport" (some 0) with
  accessFlags := 33
  interfaces := #[]
  cf := some (fileOf pool16 21 #[] #[⟨2, 9, 19, #[]⟩, ⟨9, 351, 352, #[]⟩] 33 16 #[] #[⟨24, 28, 29, #[]⟩, ⟨26, 38, 39, #[]⟩, ⟨25, 121, 25, #[]⟩, ⟨25, 131, 25, #[]⟩, ⟨25, 137, 25, #[]⟩, ⟨25, 143, 25, #[]⟩, ⟨25, 53, 25, #[]⟩, ⟨25, 24, 25, #[]⟩, ⟨25, 162, 25, #[]⟩, ⟨25, 187, 25, #[]⟩, ⟨26, 48, 25, #[]⟩, ⟨25, 277, 25, #[]⟩, ⟨25, 280, 25, #[]⟩, ⟨25, 282, 25, #[]⟩, ⟨25, 284, 25, #[]⟩, ⟨25, 286, 25, #[]⟩, ⟨25, 288, 25, #[]⟩, ⟨25, 290, 25, #[]⟩, ⟨25, 292, 25, #[]⟩, ⟨26, 108, 109, #[]⟩, ⟨25, 294, 25, #[]⟩])
  fields := #[fd "U" (.object "jdk/internal/misc/Unsafe") 24 0, fd "BIG_ENDIAN" .boolean 26 1, fd "LOG2_ARRAY_BOOLEAN_INDEX_SCALE" .int 25 2, fd "LOG2_ARRAY_BYTE_INDEX_SCALE" .int 25 3, fd "LOG2_ARRAY_CHAR_INDEX_SCALE" .int 25 4, fd "LOG2_ARRAY_SHORT_INDEX_SCALE" .int 25 5, fd "LOG2_ARRAY_INT_INDEX_SCALE" .int 25 6, fd "LOG2_ARRAY_LONG_INDEX_SCALE" .int 25 7, fd "LOG2_ARRAY_FLOAT_INDEX_SCALE" .int 25 8, fd "LOG2_ARRAY_DOUBLE_INDEX_SCALE" .int 25 9, fd "LOG2_BYTE_BIT_SIZE" .int 26 10, fd "T_BOOLEAN" .int 25 11, fd "T_CHAR" .int 25 12, fd "T_FLOAT" .int 25 13, fd "T_DOUBLE" .int 25 14, fd "T_BYTE" .int 25 15, fd "T_SHORT" .int 25 16, fd "T_INT" .int 25 17, fd "T_LONG" .int 25 18, fd "JLA" (.object "jdk/internal/access/JavaLangAccess") 26 19, fd "SOFT_MAX_ARRAY_LENGTH" .int 25 20]
  methods := #[k16m0, k16m1]
  instanceTypes := #[]
  staticTypes := #[(.object "jdk/internal/misc/Unsafe"), .boolean, .int, .int, .int, .int, .int, .int, .int, .int, .int, .int, .int, .int, .int, .int, .int, .int, .int, (.object "jdk/internal/access/JavaLangAccess"), .int]
  resolved := Array.replicate 378 none
  statics := none }

def pool17 : Array CpInfo := pool [(1, .class_ 2), (0, u "java/lang/Math"), (1, .class_ 6), (1, u "java/lang/Object"), (0, u "<init>"), (0, u "()V"), (89, .class_ 100), (1, u "java/lang/Math$RandomNumberGeneratorHolder"), (71, u "negativeZeroFloatBits"), (0, u "J"), (2, u "negativeZeroDoubleBits"), (21, u "max"), (2, u "min"), (43, u "$assertionsDisabled"), (0, u "Z"), (88, u "(II)I"), (2, u "twoToTheDoubleScaleDown"), (0, u "D"), (4, u "twoToTheDoubleScaleUp"), (9, u "E"), (3, u "PI"), (2, u "TAU"), (2, u "DEGREES_TO_RADIANS"), (0, u "RADIANS_TO_DEGREES")] 94

def k17m0 : Method := mt "<init>" "()V" [] none 2 none
def k17c1 : Code := co 2 2 jdk_29_method_65_code
def k17m1 : Method := mt "max" "(II)I" [.int, .int] (some .int) 9 (some k17c1)
def k17c2 : Code := co 2 2 jdk_29_method_69_code
def k17m2 : Method := mt "min" "(II)I" [.int, .int] (some .int) 9 (some k17c2)
/-- java/lang/Math -/
def k17 : Class := { plain "java/lang/Math" (some 0) with
  accessFlags := 49
  interfaces := #[]
  cf := some (fileOf pool17 1 #[.nestMembers #[98]] #[⟨2, 7, 8, #[]⟩, ⟨9, 198, 335, #[]⟩, ⟨9, 201, 335, #[]⟩] 49 4 #[] #[⟨25, 354, 339, #[]⟩, ⟨25, 358, 339, #[]⟩, ⟨25, 361, 339, #[]⟩, ⟨26, 364, 339, #[]⟩, ⟨26, 365, 339, #[]⟩, ⟨26, 172, 173, #[]⟩, ⟨26, 176, 173, #[]⟩, ⟨8, 344, 339, #[]⟩, ⟨8, 338, 339, #[]⟩, ⟨4120, 245, 246, #[]⟩])
  fields := #[fd "E" .double 25 0, fd "PI" .double 25 1, fd "TAU" .double 25 2, fd "DEGREES_TO_RADIANS" .double 26 3, fd "RADIANS_TO_DEGREES" .double 26 4, fd "negativeZeroFloatBits" .long 26 5, fd "negativeZeroDoubleBits" .long 26 6, fd "twoToTheDoubleScaleUp" .double 8 7, fd "twoToTheDoubleScaleDown" .double 8 8, fd "$assertionsDisabled" .boolean 4120 9]
  methods := #[k17m0, k17m1, k17m2]
  instanceTypes := #[]
  staticTypes := #[.double, .double, .double, .double, .double, .long, .long, .double, .double, .boolean]
  resolved := Array.replicate 460 none
  statics := none }

def pool18 : Array CpInfo := pool [(2, .class_ 4), (1, u "java/lang/Object"), (0, u "<init>"), (0, u "()V"), (7, .class_ 16), (1, u "java/util/Arrays"), (57, .class_ 76), (1, u "java/util/Arrays$NaturalOrder"), (36, .class_ 115), (1, u "java/util/Arrays$LegacyMergeSort"), (1, u "Z"), (21, u "copyOfRange"), (10, .methodref 151 152), (0, .class_ 153), (0, .nameAndType 154 155), (0, u "java/lang/System"), (0, u "arraycopy"), (0, u "(Ljava/lang/Object;ILjava/lang/Object;II)V"), (146, u "copyOf"), (1, .methodref 305 306), (0, .class_ 307), (0, .nameAndType 308 309), (0, u "java/lang/Math"), (0, u "min"), (0, u "(II)I"), (29, .methodref 14 340), (0, .nameAndType 341 342), (0, u "copyOfRangeByte"), (0, u "([BII)[B"), (0, .methodref 14 344), (0, .nameAndType 345 346), (0, u "checkLength"), (0, u "(II)V"), (28, .class_ 376), (0, u "java/util/Arrays$ArrayList"), (68, u "$assertionsDisabled"), (269, u "MIN_ARRAY_SORT_GRAN"), (0, u "I"), (2, u "INSERTIONSORT_THRESHOLD"), (149, u "([BI)[B"), (105, .class_ 976), (0, u "java/util/Arrays$ArrayItr")] 52

def k18m0 : Method := mt "<init>" "()V" [] none 2 none
def k18c1 : Code := co 6 3 jdk_65_method_121_code
def k18m1 : Method := mt "copyOf" "([BI)[B" [(.array .byte), .int] (some (.array .byte)) 9 (some k18c1)
def k18c2 : Code := co 4 2 jdk_65_method_131_code
def k18m2 : Method := mt "checkLength" "(II)V" [.int, .int] none 10 (some k18c2)
def k18c3 : Code := co 3 3 jdk_65_method_132_code
def k18m3 : Method := mt "copyOfRange" "([BII)[B" [(.array .byte), .int, .int] (some (.array .byte)) 9 (some k18c3)
def k18c4 : Code := co 6 5 jdk_65_method_133_code
def k18m4 : Method := mt "copyOfRangeByte" "([BII)[B" [(.array .byte), .int, .int] (some (.array .byte)) 10 (some k18c4)
/-- java/util/Arrays -/
def k18 : Class := { plain "java/util/Arrays" (some 0) with
  accessFlags := 49
  interfaces := #[]
  cf := some (fileOf pool18 14 #[.nestMembers #[975, 375, 113, 74]] #[⟨2, 5, 6, #[]⟩, ⟨9, 302, 869, #[]⟩, ⟨10, 345, 346, #[]⟩, ⟨9, 139, 342, #[]⟩, ⟨10, 341, 342, #[]⟩] 49 2 #[] #[⟨26, 715, 716, #[]⟩, ⟨26, 719, 716, #[]⟩, ⟨4120, 445, 117, #[]⟩])
  fields := #[fd "MIN_ARRAY_SORT_GRAN" .int 26 0, fd "INSERTIONSORT_THRESHOLD" .int 26 1, fd "$assertionsDisabled" .boolean 4120 2]
  methods := #[k18m0, k18m1, k18m2, k18m3, k18m4]
  instanceTypes := #[]
  staticTypes := #[.int, .int, .boolean]
  resolved := Array.replicate 1029 none
  statics := none }

def pool19 : Array CpInfo := pool [(2, .class_ 4), (1, u "java/lang/Object"), (0, u "<init>"), (0, u "()V"), (1, .class_ 10), (1, u "java/lang/System"), (0, u "allowSecurityManager"), (0, u "I"), (16, u "cons"), (0, u "Ljava/io/Console;"), (77, .class_ 110), (1, u "java/lang/System$CallersHolder"), (43, u "initialErrStream"), (0, u "Ljava/io/PrintStream;"), (19, u "security"), (0, u "Ljava/lang/SecurityManager;"), (31, .class_ 209), (0, u "java/lang/System$1"), (7, u "props"), (0, u "Ljava/util/Properties;"), (2, u "lineSeparator"), (0, u "Ljava/lang/String;"), (96, .class_ 321), (1, u "java/lang/System$LoggerFinder"), (5, .class_ 328), (0, u "java/lang/System$Logger"), (67, u "err"), (2, u "out"), (91, u "notSupportedJnuEncoding"), (15, u "in"), (17, u "initialIn"), (0, u "Ljava/io/InputStream;"), (35, u "bootLayer"), (0, u "Ljava/lang/ModuleLayer;"), (99, .class_ 664), (0, u "java/lang/System$2"), (9, u "NEVER"), (2, u "MAYBE"), (49, u "arraycopy"), (0, u "(Ljava/lang/Object;ILjava/lang/Object;II)V"), (72, .class_ 802), (0, u "java/lang/System$Logger$Level")] 31

def k19m0 : Method := mt "<init>" "()V" [] none 2 none
def k19m1 : Method := mt "arraycopy" "(Ljava/lang/Object;ILjava/lang/Object;II)V" [(.object "java/lang/Object"), .int, (.object "java/lang/Object"), .int, .int] none 265 none
/-- java/lang/System -/
def k19 : Class := { plain "java/lang/System" (some 0) with
  accessFlags := 49
  interfaces := #[]
  cf := some (fileOf pool19 8 #[.nestMembers #[319, 327, 801, 108, 663, 208]] #[⟨2, 5, 6, #[]⟩, ⟨265, 727, 728, #[]⟩] 49 2 #[] #[⟨25, 507, 526, #[]⟩, ⟨25, 399, 155, #[]⟩, ⟨25, 396, 155, #[]⟩, ⟨10, 525, 526, #[]⟩, ⟨26, 674, 12, #[]⟩, ⟨26, 677, 12, #[]⟩, ⟨10, 11, 12, #[]⟩, ⟨74, 175, 176, #[]⟩, ⟨10, 491, 222, #[]⟩, ⟨74, 29, 30, #[]⟩, ⟨74, 154, 155, #[]⟩, ⟨10, 217, 218, #[]⟩, ⟨10, 221, 222, #[]⟩, ⟨8, 562, 563, #[]⟩])
  fields := #[fd "in" (.object "java/io/InputStream") 25 0, fd "out" (.object "java/io/PrintStream") 25 1, fd "err" (.object "java/io/PrintStream") 25 2, fd "initialIn" (.object "java/io/InputStream") 10 3, fd "NEVER" .int 26 4, fd "MAYBE" .int 26 5, fd "allowSecurityManager" .int 10 6, fd "security" (.object "java/lang/SecurityManager") 74 7, fd "notSupportedJnuEncoding" (.object "java/lang/String") 10 8, fd "cons" (.object "java/io/Console") 74 9, fd "initialErrStream" (.object "java/io/PrintStream") 74 10, fd "props" (.object "java/util/Properties") 10 11, fd "lineSeparator" (.object "java/lang/String") 10 12, fd "bootLayer" (.object "java/lang/ModuleLayer") 8 13]
  methods := #[k19m0, k19m1]
  instanceTypes := #[]
  staticTypes := #[(.object "java/io/InputStream"), (.object "java/io/PrintStream"), (.object "java/io/PrintStream"), (.object "java/io/InputStream"), .int, .int, .int, (.object "java/lang/SecurityManager"), (.object "java/lang/String"), (.object "java/io/Console"), (.object "java/io/PrintStream"), (.object "java/util/Properties"), (.object "java/lang/String"), (.object "java/lang/ModuleLayer")]
  resolved := Array.replicate 834 none
  statics := none }

def pool20 : Array CpInfo := pool [(4, .class_ 6), (1, u "java/lang/Object"), (0, u "<init>"), (0, u "()V"), (5, .class_ 16), (1, u "java/lang/StringLatin1"), (0, u "inflate"), (2, .class_ 22), (1, u "java/lang/StringUTF16"), (3, .nameAndType 17 27), (0, u "([BI[BII)V"), (62, u "canEncode"), (14, u "(C)Z"), (15, u "$assertionsDisabled"), (0, u "Z"), (98, .class_ 223), (1, u "java/lang/StringLatin1$LinesSpliterator"), (16, .methodref 20 26), (40, u "equals"), (0, u "([B[B)Z"), (97, u "toBytes"), (1, u "(C)[B"), (7, .class_ 391), (0, u "java/lang/StringLatin1$CharsSpliterator")] 3

def k20m0 : Method := mt "<init>" "()V" [] none 0 none
def k20c1 : Code := co 2 1 jdk_43_method_3_code
def k20m1 : Method := mt "canEncode" "(C)Z" [.char] (some .boolean) 9 (some k20c1)
def k20c2 : Code := co 3 3 jdk_43_method_13_code
def k20m2 : Method := mt "equals" "([B[B)Z" [(.array .byte), (.array .byte)] (some .boolean) 9 (some k20c2)
def k20c3 : Code := co 4 1 jdk_43_method_46_code
def k20m3 : Method := mt "toBytes" "(C)[B" [.char] (some (.array .byte)) 9 (some k20c3)
def k20c4 : Code := co 5 5 jdk_43_method_50_code
def k20m4 : Method := mt "inflate" "([BI[BII)V" [(.array .byte), .int, (.array .byte), .int, .int] none 9 (some k20c4)
/-- java/lang/StringLatin1 -/
def k20 : Class := { plain "java/lang/StringLatin1" (some 0) with
  accessFlags := 48
  interfaces := #[]
  cf := some (fileOf pool20 14 #[.nestMembers #[390, 221]] #[⟨0, 7, 8, #[]⟩, ⟨9, 90, 105, #[]⟩, ⟨9, 281, 282, #[]⟩, ⟨9, 380, 382, #[]⟩, ⟨9, 17, 27, #[]⟩] 48 4 #[] #[⟨4120, 121, 122, #[]⟩])
  fields := #[fd "$assertionsDisabled" .boolean 4120 0]
  methods := #[k20m0, k20m1, k20m2, k20m3, k20m4]
  instanceTypes := #[]
  staticTypes := #[.boolean]
  resolved := Array.replicate 395 none
  statics := none }

def pool21 : Array CpInfo := pool [(3, .class_ 4), (0, u "java/lang/String"), (1, .class_ 8), (1, u "java/lang/Object"), (0, u "<init>"), (0, u "()V"), (0, .methodref 12 13), (0, .class_ 14), (0, .nameAndType 15 16), (0, u "java/lang/StringUTF16"), (0, u "newBytesLength"), (0, u "(I)I"), (3, .integer 1073741823), (23, .fieldref 12 45), (0, .nameAndType 46 47), (0, u "$assertionsDisabled"), (0, u "Z"), (0, .methodref 12 49), (0, .nameAndType 50 51), (0, u "length"), (0, u "([B)I"), (7, .fieldref 12 60), (0, .nameAndType 61 62), (0, u "HI_BYTE_SHIFT"), (0, u "I"), (0, .fieldref 12 64), (0, .nameAndType 65 62), (0, u "LO_BYTE_SHIFT"), (5, .methodref 12 72), (0, .nameAndType 73 74), (0, u "getChar"), (0, u "([BI)C"), (24, u "(II[B)V"), (7, .methodref 12 108), (0, .nameAndType 109 110), (0, u "newBytesFor"), (0, u "(I)[B"), (0, .methodref 12 112), (0, .nameAndType 113 114), (0, u "putChar"), (0, u "([BII)V"), (0, .methodref 12 116), (0, .nameAndType 117 118), (0, u "compress"), (0, u "([CI[BII)I"), (0, .methodref 12 120), (0, .nameAndType 121 122), (0, u "toBytes"), (0, u "([CII)[B"), (17, u "inflate"), (0, u "([BI[BII)V"), (31, .methodref 12 174), (0, .nameAndType 175 99), (0, u "checkBoundsOffCount"), (85, u "coderFromArrayLen"), (0, u "([BI)B"), (18, u "(III)I"), (87, .class_ 371), (1, u "java/lang/StringUTF16$LinesSpliterator"), (47, .methodref 3 420), (0, .nameAndType 175 281), (9, u "MAX_LENGTH"), (44, u "(C)[B"), (151, .class_ 628), (0, u "java/lang/StringUTF16$CodePointsSpliterator"), (0, .class_ 630), (0, u "java/lang/StringUTF16$CharsSpliterator")] 4

def k21m0 : Method := mt "<init>" "()V" [] none 0 none
def k21c1 : Code := co 1 1 jdk_52_method_2_code
def k21m1 : Method := mt "newBytesFor" "(I)[B" [.int] (some (.array .byte)) 9 (some k21c1)
def k21c2 : Code := co 4 1 jdk_52_method_3_code
def k21m2 : Method := mt "newBytesLength" "(I)I" [.int] (some .int) 9 (some k21c2)
def k21c3 : Code := co 4 3 jdk_52_method_4_code
def k21m3 : Method := mt "putChar" "([BII)V" [(.array .byte), .int, .int] none 8 (some k21c3)
def k21c4 : Code := co 3 2 jdk_52_method_5_code
def k21m4 : Method := mt "getChar" "([BI)C" [(.array .byte), .int] (some .char) 8 (some k21c4)
def k21c5 : Code := co 2 1 jdk_52_method_6_code
def k21m5 : Method := mt "length" "([B)I" [(.array .byte)] (some .int) 9 (some k21c5)
def k21c6 : Code := co 4 5 jdk_52_method_14_code
def k21m6 : Method := mt "toBytes" "([CII)[B" [(.array .char), .int, .int] (some (.array .byte)) 9 (some k21c6)
def k21c7 : Code := co 2 2 jdk_52_method_15_code
def k21m7 : Method := mt "coderFromArrayLen" "([BI)B" [(.array .byte), .int] (some .byte) 8 (some k21c7)
def k21c8 : Code := co 5 6 jdk_52_method_16_code
def k21m8 : Method := mt "compress" "([CII)[B" [(.array .char), .int, .int] (some (.array .byte)) 9 (some k21c8)
def k21c9 : Code := co 3 7 jdk_52_method_21_code
def k21m9 : Method := mt "compress" "([CI[BII)I" [(.array .char), .int, (.array .byte), .int, .int] (some .int) 9 (some k21c9)
def k21c10 : Code := co 3 2 jdk_52_method_24_code
def k21m10 : Method := mt "toBytes" "(C)[B" [.char] (some (.array .byte)) 9 (some k21c10)
def k21c11 : Code := co 4 6 jdk_52_method_86_code
def k21m11 : Method := mt "inflate" "([BI[BII)V" [(.array .byte), .int, (.array .byte), .int, .int] none 9 (some k21c11)
def k21c12 : Code := co 3 3 jdk_52_method_94_code
def k21m12 : Method := mt "checkBoundsOffCount" "(II[B)V" [.int, .int, (.array .byte)] none 9 (some k21c12)
/-- java/lang/StringUTF16 -/
def k21 : Class := { plain "java/lang/StringUTF16" (some 0) with
  accessFlags := 48
  interfaces := #[]
  cf := some (fileOf pool21 12 #[.nestMembers #[627, 629, 369]] #[⟨0, 9, 10, #[]⟩, ⟨9, 109, 110, #[]⟩, ⟨9, 15, 16, #[]⟩, ⟨8, 113, 114, #[]⟩, ⟨8, 73, 74, #[]⟩, ⟨9, 50, 51, #[]⟩, ⟨9, 121, 122, #[]⟩, ⟨8, 261, 262, #[]⟩, ⟨9, 117, 122, #[]⟩, ⟨9, 117, 118, #[]⟩, ⟨9, 121, 475, #[]⟩, ⟨9, 140, 141, #[]⟩, ⟨9, 175, 99, #[]⟩] 48 6 #[] #[⟨26, 61, 62, #[]⟩, ⟨26, 65, 62, #[]⟩, ⟨24, 430, 62, #[]⟩, ⟨4120, 46, 47, #[]⟩])
  fields := #[fd "HI_BYTE_SHIFT" .int 26 0, fd "LO_BYTE_SHIFT" .int 26 1, fd "MAX_LENGTH" .int 24 2, fd "$assertionsDisabled" .boolean 4120 3]
  methods := #[k21m0, k21m1, k21m2, k21m3, k21m4, k21m5, k21m6, k21m7, k21m8, k21m9, k21m10, k21m11, k21m12]
  instanceTypes := #[]
  staticTypes := #[.int, .int, .int, .boolean]
  resolved := Array.replicate 635 none
  statics := some 3 }

def pool22 : Array CpInfo := pool [(2, .class_ 4), (1, u "java/lang/Object"), (0, u "<init>"), (0, u "()V"), (17, .class_ 26), (1, u "jdk/internal/util/Preconditions"), (22, u "checkFromIndexSize"), (5, .class_ 56), (0, u "jdk/internal/util/Preconditions$4"), (57, .class_ 115), (0, u "jdk/internal/util/Preconditions$1"), (7, u "SIOOBE_FORMATTER"), (0, u "Ljava/util/function/BiFunction;"), (0, .class_ 126), (0, u "jdk/internal/util/Preconditions$2"), (3, u "AIOOBE_FORMATTER"), (0, .class_ 132), (0, u "jdk/internal/util/Preconditions$3"), (3, u "IOOBE_FORMATTER"), (46, u "(IIILjava/util/function/BiFunction;)I")] 10

def k22m0 : Method := mt "<init>" "()V" [] none 1 none
def k22c1 : Code := co 4 4 jdk_41_method_13_code
def k22m1 : Method := mt "checkFromIndexSize" "(IIILjava/util/function/BiFunction;)I" [.int, .int, .int, (.object "java/util/function/BiFunction")] (some .int) 9 (some k22c1)
/-- jdk/internal/util/Preconditions -/
def k22 : Class := { plain "jdk/internal/util/Preconditions" (some 0) with
  accessFlags := 33
  interfaces := #[]
  cf := some (fileOf pool22 24 #[.nestMembers #[55, 131, 125, 114]] #[⟨1, 5, 6, #[]⟩, ⟨9, 49, 183, #[]⟩] 33 2 #[] #[⟨25, 123, 124, #[]⟩, ⟨25, 130, 124, #[]⟩, ⟨25, 136, 124, #[]⟩])
  fields := #[fd "SIOOBE_FORMATTER" (.object "java/util/function/BiFunction") 25 0, fd "AIOOBE_FORMATTER" (.object "java/util/function/BiFunction") 25 1, fd "IOOBE_FORMATTER" (.object "java/util/function/BiFunction") 25 2]
  methods := #[k22m0, k22m1]
  instanceTypes := #[]
  staticTypes := #[(.object "java/util/function/BiFunction"), (.object "java/util/function/BiFunction"), (.object "java/util/function/BiFunction")]
  resolved := Array.replicate 194 none
  statics := some 4 }

def pool23 : Array CpInfo := pool [(2, .class_ 4), (1, u "java/lang/Object"), (0, u "<init>"), (0, u "()V"), (12, .class_ 20), (0, u "java/util/Collections"), (63, u "r"), (0, u "Ljava/util/Random;"), (80, .class_ 167), (0, u "java/util/Collections$UnmodifiableCollection"), (6, .class_ 175), (0, u "java/util/Collections$UnmodifiableSequencedCollection"), (6, .class_ 183), (0, u "java/util/Collections$UnmodifiableSet"), (6, .class_ 191), (0, u "java/util/Collections$UnmodifiableSequencedSet"), (6, .class_ 199), (0, u "java/util/Collections$UnmodifiableSortedSet"), (6, .class_ 207), (0, u "java/util/Collections$UnmodifiableNavigableSet"), (4, .class_ 213), (0, u "java/util/Collections$UnmodifiableList"), (1, .class_ 216), (0, u "java/util/Collections$UnmodifiableRandomAccessList"), (6, .class_ 224), (0, u "java/util/Collections$UnmodifiableMap"), (6, .class_ 232), (0, u "java/util/Collections$UnmodifiableSequencedMap"), (4, .class_ 238), (0, u "java/util/Collections$UnmodifiableSortedMap"), (6, .class_ 246), (0, u "java/util/Collections$UnmodifiableNavigableMap"), (3, .class_ 251), (0, u "java/util/Collections$SynchronizedCollection"), (4, .class_ 257), (0, u "java/util/Collections$SynchronizedSet"), (4, .class_ 263), (0, u "java/util/Collections$SynchronizedSortedSet"), (1, .class_ 266), (0, u "java/util/Collections$SynchronizedNavigableSet"), (1, .class_ 269), (0, u "java/util/Collections$SynchronizedRandomAccessList"), (1, .class_ 272), (0, u "java/util/Collections$SynchronizedList"), (5, .class_ 279), (0, u "java/util/Collections$SynchronizedMap"), (1, .class_ 282), (0, u "java/util/Collections$SynchronizedSortedMap"), (1, .class_ 285), (0, u "java/util/Collections$SynchronizedNavigableMap"), (1, .class_ 288), (0, u "java/util/Collections$CheckedCollection"), (11, .class_ 301), (0, u "java/util/Collections$CheckedQueue"), (3, .class_ 306), (0, u "java/util/Collections$CheckedSet"), (3, .class_ 311), (0, u "java/util/Collections$CheckedSortedSet"), (3, .class_ 316), (0, u "java/util/Collections$CheckedNavigableSet"), (3, .class_ 321), (0, u "java/util/Collections$CheckedRandomAccessList"), (3, .class_ 326), (0, u "java/util/Collections$CheckedList"), (1, .class_ 329), (0, u "java/util/Collections$CheckedMap"), (3, .class_ 334), (0, u "java/util/Collections$CheckedSortedMap"), (3, .class_ 339), (0, u "java/util/Collections$CheckedNavigableMap"), (4, .class_ 346), (1, u "java/util/Collections$EmptyIterator"), (3, .class_ 352), (1, u "java/util/Collections$EmptyListIterator"), (2, .class_ 357), (1, u "java/util/Collections$EmptyEnumeration"), (4, u "EMPTY_SET"), (0, u "Ljava/util/Set;"), (6, u "EMPTY_LIST"), (0, u "Ljava/util/List;"), (2, u "EMPTY_MAP"), (0, u "Ljava/util/Map;"), (4, .class_ 381), (0, u "java/util/Collections$SingletonSet"), (2, .class_ 385), (0, u "java/util/Collections$1"), (1, .class_ 388), (0, u "java/util/Collections$2"), (1, .class_ 391), (0, u "java/util/Collections$SingletonList"), (1, .class_ 394), (0, u "java/util/Collections$SingletonMap"), (22, .class_ 418), (0, u "java/util/Collections$CopiesList"), (4, .class_ 425), (1, u "java/util/Collections$ReverseComparator"), (8, .class_ 435), (0, u "java/util/Collections$ReverseComparator2"), (6, .class_ 443), (0, u "java/util/Collections$3"), (25, .class_ 470), (0, u "java/util/Collections$SetFromMap"), (2, .class_ 474), (0, u "java/util/Collections$SequencedSetFromMap"), (3, .class_ 479), (0, u "java/util/Collections$AsLIFOQueue"), (11, .class_ 492), (0, u "java/util/Collections$EmptySet"), (1, .class_ 495), (0, u "java/util/Collections$EmptyList"), (1, .class_ 498), (0, u "java/util/Collections$EmptyMap"), (1, u "BINARYSEARCH_THRESHOLD"), (0, u "I"), (2, u "REVERSE_THRESHOLD"), (1, u "SHUFFLE_THRESHOLD"), (1, u "FILL_THRESHOLD"), (1, u "ROTATE_THRESHOLD"), (1, u "COPY_THRESHOLD"), (1, u "REPLACEALL_THRESHOLD"), (1, u "INDEXOFSUBLIST_THRESHOLD"), (333, .class_ 851), (0, u "java/util/Collections$CheckedMap$CheckedEntrySet"), (0, .class_ 853), (0, u "java/util/Collections$CheckedMap$CheckedEntrySet$CheckedEntry"), (0, .class_ 855), (0, u "java/util/Collections$CheckedMap$CheckedEntrySet$1"), (0, .class_ 857), (0, u "java/util/Collections$CheckedList$1"), (0, .class_ 859), (0, u "java/util/Collections$CheckedCollection$1"), (0, .class_ 861), (0, u "java/util/Collections$UnmodifiableNavigableMap$EmptyNavigableMap"), (0, .class_ 863), (0, u "java/util/Collections$UnmodifiableMap$UnmodifiableEntrySet"), (0, .class_ 865), (0, u "java/util/Collections$UnmodifiableMap$UnmodifiableEntrySet$UnmodifiableEntry"), (0, .class_ 867), (0, u "java/util/Collections$UnmodifiableMap$UnmodifiableEntrySet$UnmodifiableEntrySetSpliterator"), (0, .class_ 869), (0, u "java/util/Collections$UnmodifiableMap$UnmodifiableEntrySet$1"), (0, .class_ 871), (0, u "java/util/Collections$UnmodifiableList$1"), (0, .class_ 873), (0, u "java/util/Collections$UnmodifiableNavigableSet$EmptyNavigableSet"), (0, .class_ 875), (0, u "java/util/Collections$UnmodifiableCollection$1")] 57

def k23m0 : Method := mt "<init>" "()V" [] none 2 none
/-- java/util/Collections -/
def k23 : Class := { plain "java/util/Collections" (some 0) with
  accessFlags := 33
  interfaces := #[]
  cf := some (fileOf pool23 19 #[.nestMembers #[478, 473, 469, 434, 423, 417, 393, 390, 380, 497, 494, 491, 355, 350, 344, 338, 333, 328, 850, 852, 854, 320, 325, 856, 315, 310, 305, 300, 287, 858, 284, 281, 278, 268, 271, 265, 262, 256, 250, 245, 860, 237, 231, 223, 862, 864, 866, 868, 215, 212, 870, 206, 872, 198, 190, 182, 174, 166, 874, 442, 387, 384]] #[⟨2, 5, 6, #[]⟩] 33 2 #[] #[⟨26, 500, 501, #[]⟩, ⟨26, 504, 501, #[]⟩, ⟨26, 506, 501, #[]⟩, ⟨26, 508, 501, #[]⟩, ⟨26, 510, 501, #[]⟩, ⟨26, 512, 501, #[]⟩, ⟨26, 514, 501, #[]⟩, ⟨26, 516, 501, #[]⟩, ⟨10, 84, 85, #[]⟩, ⟨25, 362, 363, #[]⟩, ⟨25, 370, 371, #[]⟩, ⟨25, 374, 375, #[]⟩])
  fields := #[fd "BINARYSEARCH_THRESHOLD" .int 26 0, fd "REVERSE_THRESHOLD" .int 26 1, fd "SHUFFLE_THRESHOLD" .int 26 2, fd "FILL_THRESHOLD" .int 26 3, fd "ROTATE_THRESHOLD" .int 26 4, fd "COPY_THRESHOLD" .int 26 5, fd "REPLACEALL_THRESHOLD" .int 26 6, fd "INDEXOFSUBLIST_THRESHOLD" .int 26 7, fd "r" (.object "java/util/Random") 10 8, fd "EMPTY_SET" (.object "java/util/Set") 25 9, fd "EMPTY_LIST" (.object "java/util/List") 25 10, fd "EMPTY_MAP" (.object "java/util/Map") 25 11]
  methods := #[k23m0]
  instanceTypes := #[]
  staticTypes := #[.int, .int, .int, .int, .int, .int, .int, .int, (.object "java/util/Random"), (.object "java/util/Set"), (.object "java/util/List"), (.object "java/util/Map")]
  resolved := Array.replicate 933 none
  statics := some 5 }

def pool24 : Array CpInfo := pool [(8, .class_ 10), (1, u "java/lang/Iterable"), (24, .class_ 36), (0, u "java/lang/Object")] 25

/-- java/lang/Iterable -/
def k24 : Class := { plain "java/lang/Iterable" (some 0) with
  accessFlags := 1537
  interfaces := #[]
  cf := some (fileOf pool24 8 #[] #[] 1537 35 #[] #[])
  fields := #[]
  methods := #[]
  instanceTypes := #[]
  staticTypes := #[]
  resolved := Array.replicate 62 none
  statics := none }

def pool25 : Array CpInfo := pool [(10, .class_ 12), (1, u "java/util/Collection"), (47, .class_ 61), (0, u "java/lang/Object"), (0, .class_ 63), (0, u "java/lang/Iterable")] 51

/-- java/util/Collection -/
def k25 : Class := { plain "java/util/Collection" (some 0) with
  accessFlags := 1537
  interfaces := #[24]
  cf := some (fileOf pool25 10 #[] #[] 1537 60 #[62] #[])
  fields := #[]
  methods := #[]
  instanceTypes := #[]
  staticTypes := #[]
  resolved := Array.replicate 115 none
  statics := none }

def pool26 : Array CpInfo := pool [(2, .class_ 4), (1, u "java/lang/Object"), (0, u "<init>"), (0, u "()V"), (1, .class_ 10), (1, u "java/util/AbstractCollection"), (66, .class_ 78), (0, u "java/util/Collection")] 81

def k26m0 : Method := mt "<init>" "()V" [] none 4 none
/-- java/util/AbstractCollection -/
def k26 : Class := { plain "java/util/AbstractCollection" (some 0) with
  accessFlags := 1057
  interfaces := #[25]
  cf := some (fileOf pool26 8 #[] #[⟨4, 5, 6, #[]⟩] 1057 2 #[77] #[])
  fields := #[]
  methods := #[k26m0]
  instanceTypes := #[]
  staticTypes := #[]
  resolved := Array.replicate 160 none
  statics := none }

def pool27 : Array CpInfo := pool [(8, .class_ 10), (1, u "java/util/SequencedCollection"), (15, .class_ 27), (0, u "java/lang/Object"), (0, .class_ 29), (0, u "java/util/Collection")] 27

/-- java/util/SequencedCollection -/
def k27 : Class := { plain "java/util/SequencedCollection" (some 0) with
  accessFlags := 1537
  interfaces := #[25]
  cf := some (fileOf pool27 8 #[] #[] 1537 26 #[28] #[])
  fields := #[]
  methods := #[]
  instanceTypes := #[]
  staticTypes := #[]
  resolved := Array.replicate 57 none
  statics := none }

def pool28 : Array CpInfo := pool [(8, .class_ 10), (1, u "java/util/List"), (92, .class_ 104), (0, u "java/lang/Object"), (15, .class_ 121), (0, u "java/util/SequencedCollection")] 129

/-- java/util/List -/
def k28 : Class := { plain "java/util/List" (some 0) with
  accessFlags := 1537
  interfaces := #[27]
  cf := some (fileOf pool28 8 #[] #[] 1537 103 #[120] #[])
  fields := #[]
  methods := #[]
  instanceTypes := #[]
  staticTypes := #[]
  resolved := Array.replicate 251 none
  statics := none }

def pool29 : Array CpInfo := pool [(2, .class_ 4), (1, u "java/util/AbstractCollection"), (0, u "<init>"), (0, u "()V"), (1, .class_ 10), (1, u "java/util/AbstractList"), (0, u "modCount"), (0, u "I"), (64, .class_ 78), (0, u "java/util/AbstractList$Itr"), (3, .class_ 83), (0, u "java/util/AbstractList$ListItr"), (9, .class_ 94), (0, u "java/util/AbstractList$RandomAccessSubList"), (3, .class_ 99), (0, u "java/util/AbstractList$SubList"), (33, .class_ 134), (0, u "java/util/List"), (73, .class_ 209), (0, u "java/util/AbstractList$SubList$1"), (0, .class_ 211), (0, u "java/util/AbstractList$RandomAccessSpliterator")] 6

def k29m0 : Method := mt "<init>" "()V" [] none 4 none
/-- java/util/AbstractList -/
def k29 : Class := { plain "java/util/AbstractList" (some 26) with
  accessFlags := 1057
  interfaces := #[28]
  cf := some (fileOf pool29 8 #[.nestMembers #[93, 98, 208, 210, 82, 77]] #[⟨4, 5, 6, #[]⟩] 1057 2 #[133] #[⟨132, 11, 12, #[]⟩])
  fields := #[fd "modCount" .int 132 0]
  methods := #[k29m0]
  instanceTypes := #[.int]
  staticTypes := #[]
  resolved := Array.replicate 218 none
  statics := none }

def pool30 : Array CpInfo := pool [(1, .class_ 2), (0, u "java/util/RandomAccess"), (0, .class_ 4), (0, u "java/lang/Object")] 2

/-- java/util/RandomAccess -/
def k30 : Class := { plain "java/util/RandomAccess" (some 0) with
  accessFlags := 1537
  interfaces := #[]
  cf := some (fileOf pool30 1 #[] #[] 1537 3 #[] #[])
  fields := #[]
  methods := #[]
  instanceTypes := #[]
  staticTypes := #[]
  resolved := Array.replicate 7 none
  statics := none }

def pool31 : Array CpInfo := pool [(2, .class_ 4), (1, u "java/util/AbstractList"), (0, u "<init>"), (0, u "()V"), (1, .class_ 10), (1, u "java/util/Collections"), (54, .class_ 66), (0, u "java/util/Collections$EmptyList"), (0, .class_ 68), (0, u "java/util/RandomAccess"), (0, .class_ 70), (0, u "java/io/Serializable"), (0, u "serialVersionUID"), (0, u "J")] 77

def k31m0 : Method := mt "<init>" "()V" [] none 2 none
/-- java/util/Collections$EmptyList -/
def k31 : Class := { plain "java/util/Collections$EmptyList" (some 29) with
  accessFlags := 32
  interfaces := #[30, 2]
  cf := some (fileOf pool31 65 #[.nestHost 8] #[⟨2, 5, 6, #[]⟩] 32 2 #[67, 69] #[⟨26, 71, 72, #[]⟩])
  fields := #[fd "serialVersionUID" .long 26 0]
  methods := #[k31m0]
  instanceTypes := #[.int]
  staticTypes := #[.long]
  resolved := Array.replicate 150 none
  statics := none }

def pool32 : Array CpInfo := pool [(2, .class_ 4), (1, u "java/lang/StackTraceElement"), (0, u "<init>"), (2, .class_ 10), (1, u "java/lang/Object"), (0, u "()V"), (2, u "format"), (0, u "B"), (2, u "classLoaderName"), (0, u "Ljava/lang/String;"), (2, u "moduleName"), (2, u "moduleVersion"), (12, u "declaringClass"), (4, u "methodName"), (2, u "fileName"), (2, u "lineNumber"), (0, u "I"), (65, u "declaringClassObject"), (0, u "Ljava/lang/Class;"), (33, .class_ 153), (1, u "java/lang/StackTraceElement$HashedModules"), (17, .class_ 172), (0, u "java/io/Serializable"), (0, u "NATIVE_METHOD"), (1, u "UNKNOWN_SOURCE"), (2, u "BUILTIN_CLASS_LOADER"), (1, u "JDK_NON_UPGRADEABLE_MODULE"), (1, u "serialVersionUID"), (0, u "J")] 51

def k32m0 : Method := mt "<init>" "()V" [] none 2 none
/-- java/lang/StackTraceElement -/
def k32 : Class := { plain "java/lang/StackTraceElement" (some 0) with
  accessFlags := 49
  interfaces := #[2]
  cf := some (fileOf pool32 2 #[.nestMembers #[151]] #[⟨2, 5, 11, #[]⟩] 49 8 #[171] #[⟨26, 173, 19, #[]⟩, ⟨26, 175, 19, #[]⟩, ⟨130, 116, 117, #[]⟩, ⟨2, 18, 19, #[]⟩, ⟨2, 22, 19, #[]⟩, ⟨2, 25, 19, #[]⟩, ⟨2, 38, 19, #[]⟩, ⟨2, 43, 19, #[]⟩, ⟨2, 46, 19, #[]⟩, ⟨2, 49, 50, #[]⟩, ⟨2, 14, 15, #[]⟩, ⟨26, 178, 15, #[]⟩, ⟨26, 180, 15, #[]⟩, ⟨26, 182, 183, #[]⟩])
  fields := #[fd "NATIVE_METHOD" (.object "java/lang/String") 26 0, fd "UNKNOWN_SOURCE" (.object "java/lang/String") 26 1, fd "declaringClassObject" (.object "java/lang/Class") 130 0, fd "classLoaderName" (.object "java/lang/String") 2 1, fd "moduleName" (.object "java/lang/String") 2 2, fd "moduleVersion" (.object "java/lang/String") 2 3, fd "declaringClass" (.object "java/lang/String") 2 4, fd "methodName" (.object "java/lang/String") 2 5, fd "fileName" (.object "java/lang/String") 2 6, fd "lineNumber" .int 2 7, fd "format" .byte 2 8, fd "BUILTIN_CLASS_LOADER" .byte 26 2, fd "JDK_NON_UPGRADEABLE_MODULE" .byte 26 3, fd "serialVersionUID" .long 26 4]
  methods := #[k32m0]
  instanceTypes := #[(.object "java/lang/Class"), (.object "java/lang/String"), (.object "java/lang/String"), (.object "java/lang/String"), (.object "java/lang/String"), (.object "java/lang/String"), (.object "java/lang/String"), .int, .byte]
  staticTypes := #[(.object "java/lang/String"), (.object "java/lang/String"), .byte, .byte, .long]
  resolved := Array.replicate 235 none
  statics := none }

def pool33 : Array CpInfo := pool [(1, u "java/lang/Cloneable"), (0, .class_ 1), (0, u "java/lang/Object"), (0, .class_ 3)] 3

/-- java/lang/Cloneable -/
def k33 : Class := { plain "java/lang/Cloneable" (some 0) with
  accessFlags := 1537
  interfaces := #[]
  cf := some (fileOf pool33 2 #[] #[] 1537 4 #[] #[])
  fields := #[]
  methods := #[]
  instanceTypes := #[]
  staticTypes := #[]
  resolved := Array.replicate 8 none
  statics := none }

/-- the primitive byte -/
def k34 : Class := { plain "byte" none with kind := .primitive 'B', accessFlags := 0x411 }
/-- [B -/
def k35 : Class := { plain "[B" (some 0) with kind := .array 34 .byte, interfaces := #[33, 2], accessFlags := 1041 }

/-- the primitive char -/
def k36 : Class := { plain "char" none with kind := .primitive 'C', accessFlags := 0x411 }
/-- [C -/
def k37 : Class := { plain "[C" (some 0) with kind := .array 36 .char, interfaces := #[33, 2], accessFlags := 1041 }

/-- the primitive int -/
def k38 : Class := { plain "int" none with kind := .primitive 'I', accessFlags := 0x411 }
/-- [I -/
def k39 : Class := { plain "[I" (some 0) with kind := .array 38 .int, interfaces := #[33, 2], accessFlags := 1041 }

/-- [Ljava/lang/StackTraceElement; -/
def k40 : Class := { plain "[Ljava/lang/StackTraceElement;" (some 0) with kind := .array 32 (.object "java/lang/StackTraceElement"), interfaces := #[33, 2], accessFlags := 1041 }

/-- [Ljava/lang/Throwable; -/
def k41 : Class := { plain "[Ljava/lang/Throwable;" (some 0) with kind := .array 8 (.object "java/lang/Throwable"), interfaces := #[33, 2], accessFlags := 1041 }

def heap : Heap := #[{ cls := 7, slots := #[.long 0, .int 1, .null, .int 0, .null, .int 0, .int 0], vm := .statics 7 },
  { cls := 8, slots := #[.long 0, .ref 7, .ref 8, .null, .null, .null, .null, .ref 9, .int 1], vm := .statics 8 },
  { cls := 12, slots := #[.null, .null, .null, .ref 6, .null, .null, .null], vm := .statics 12 },
  { cls := 21, slots := #[.int 0, .int 8, .int 0, .int 1], vm := .statics 21 },
  { cls := 22, slots := #[.null, .null, .null], vm := .statics 22 },
  { cls := 23, slots := #[.int 0, .int 0, .int 0, .int 0, .int 0, .int 0, .int 0, .int 0, .null, .null, .ref 8, .null], vm := .statics 23 },
  { cls := 12, slots := #[.null, .int 0, .int 0], vm := .none },
  { cls := 40, slots := #[], vm := .none },
  { cls := 31, slots := #[.int 0], vm := .none },
  { cls := 41, slots := #[], vm := .none }]
def classes : Array Class := #[k0, k1, k2, k3, k4, k5, k6, k7, k8, k9, k10, k11, k12, k13, k14, k15, k16, k17, k18, k19, k20, k21, k22, k23, k24, k25, k26, k27, k28, k29, k30, k31, k32, k33, k34, k35, k36, k37, k38, k39, k40, k41]
def interned : List (Array UInt16 × Addr) := []
def slotsUsed : Nat := 46
def theMethod : MethodId := ⟨1, 1⟩
def args0 : Array Value := #[.int 1, .int 65, .int 66, .int 67]
def aboutOver (below : List Frame) : State where
  vm := { classes := classes, interned := interned.toArray }
  heap := heap
  slotsUsed := slotsUsed
  threads := #[{ frames := .invoking theMethod args0 :: below }]
def below0 : List Frame := [.native { method := ⟨0, 0⟩, args := #[] }]
def about1 : State := aboutOver below0
def p0 : Program := .bare "" "" ""
def e0 : Env := launch0.env 0 0 0
theorem w_frames : about1.frames = Frame.invoking theMethod args0 :: below0 := rfl
theorem w_args : argsFit about1.vm theMethod args0 = true := by decide +kernel
theorem w_heap : heapFits about1 = true := by decide +kernel
theorem w_runnable : about1.curStatus? = some .runnable := by decide +kernel
theorem w_alone : about1.alone = true := by decide +kernel
theorem w_named : about1.methodNamed? x = some theMethod := by decide +kernel
theorem w_hears : about1.hears theMethod below0 = true := by decide +kernel
theorem w_ripe : about1.ripe theMethod args0 below0 = true := by decide +kernel
theorem w_running : about1.status = .running := rfl
theorem w_room : about1.hasRoom e0.platform room_1 = true :=
  launch0.hasRoom_least _ room_1 (by decide +kernel) (by decide +kernel) (by decide +kernel) (by decide +kernel) (by decide +kernel) (by decide +kernel)
theorem allAtoms_all (ts : List Jvm.Cond) (a : Array Jvm.Value) (st : Jvm.State) : (allAtoms ts).before a st = ts.all (fun c => c.before a st) := by
  induction ts with
  | nil => rfl
  | cons c t ih =>
    show (Jvm.Cond.and c (allAtoms t)).before a st = _
    rw [Jvm.Cond.before_and, ih, List.all_cons]
def words1 : List Jvm.Cond := Jvm.Cond.code x code maxLocals ret :: tables_1
/-- a 'code' word, met by the world's own term for the bytes: nothing is compared byte by byte -/
theorem code_word {y : MethodName} {bytes : ByteArray} {mx : Nat} {rt : Option FieldType} {a : Array Value} {s : State} {m : MethodId} {meth : Method} {c : Code} (h1 : s.methodNamed? y = some m) (h2 : s.vm.method? m = some meth) (h3 : meth.code = some c) (h4 : c.code = bytes)
    (h5 : (c.maxLocals == mx && c.exceptionTable.isEmpty && decide (c.maxStack ≤ mostOperands) && decide (meth.sig.returnType = rt) && !meth.locks && decide (parseMethodDescriptor y.desc = some meth.sig)) = true) : (Jvm.Cond.code y bytes mx rt).before a s = true := by
  simp only [Bool.and_eq_true, beq_iff_eq, Bool.not_eq_true', decide_eq_true_eq] at h5
  obtain ⟨⟨⟨⟨⟨g1, g2⟩, g3⟩, g4⟩, g5⟩, g6⟩ := h5
  simp [Cond.before, Cond.holds, Cond.value, h1, h2, h3, h4, g1, g2, g3, g4, g5, g6]
def isCode : Jvm.Cond → Bool
  | .code _ _ _ _ => true
  | _ => false
theorem all_split {L : List Jvm.Cond} {P : Jvm.Cond → Bool} (h1 : L.all (fun c => isCode c || P c) = true) (h2 : ∀ c ∈ L.filter isCode, P c = true) : L.all P = true := by
  refine List.all_eq_true.mpr fun c hc => ?_
  have h := List.all_eq_true.mp h1 c hc
  rcases Bool.eq_false_or_eq_true (isCode c) with hi | hi
  · exact h2 c (List.mem_filter.mpr ⟨hc, hi⟩)
  · simpa [hi] using h
theorem w_c0 : (Jvm.Cond.code x code maxLocals ret).before args0 about1 = true := code_word (m := ⟨1, 1⟩) (meth := k1m1) (c := k1c1) (by decide +kernel) rfl rfl rfl (by decide +kernel)
theorem w_c1 : cw1.before args0 about1 = true := code_word (m := ⟨7, 1⟩) (meth := k7m1) (c := k7c1) (by decide +kernel) rfl rfl rfl (by decide +kernel)
theorem w_c2 : cw2.before args0 about1 = true := code_word (m := ⟨7, 7⟩) (meth := k7m7) (c := k7c7) (by decide +kernel) rfl rfl rfl (by decide +kernel)
theorem w_c3 : cw3.before args0 about1 = true := code_word (m := ⟨0, 0⟩) (meth := k0m0) (c := k0c0) (by decide +kernel) rfl rfl rfl (by decide +kernel)
theorem w_c4 : cw4.before args0 about1 = true := code_word (m := ⟨10, 1⟩) (meth := k10m1) (c := k10c1) (by decide +kernel) rfl rfl rfl (by decide +kernel)
theorem w_c5 : cw5.before args0 about1 = true := code_word (m := ⟨15, 0⟩) (meth := k15m0) (c := k15c0) (by decide +kernel) rfl rfl rfl (by decide +kernel)
theorem w_c6 : cw6.before args0 about1 = true := code_word (m := ⟨14, 1⟩) (meth := k14m1) (c := k14c1) (by decide +kernel) rfl rfl rfl (by decide +kernel)
theorem w_c7 : cw7.before args0 about1 = true := code_word (m := ⟨15, 1⟩) (meth := k15m1) (c := k15c1) (by decide +kernel) rfl rfl rfl (by decide +kernel)
theorem w_c8 : cw8.before args0 about1 = true := code_word (m := ⟨14, 6⟩) (meth := k14m6) (c := k14c6) (by decide +kernel) rfl rfl rfl (by decide +kernel)
theorem w_c9 : cw9.before args0 about1 = true := code_word (m := ⟨7, 3⟩) (meth := k7m3) (c := k7c3) (by decide +kernel) rfl rfl rfl (by decide +kernel)
theorem w_c10 : cw10.before args0 about1 = true := code_word (m := ⟨7, 10⟩) (meth := k7m10) (c := k7c10) (by decide +kernel) rfl rfl rfl (by decide +kernel)
theorem w_c11 : cw11.before args0 about1 = true := code_word (m := ⟨14, 3⟩) (meth := k14m3) (c := k14c3) (by decide +kernel) rfl rfl rfl (by decide +kernel)
theorem w_c12 : cw12.before args0 about1 = true := code_word (m := ⟨14, 4⟩) (meth := k14m4) (c := k14c4) (by decide +kernel) rfl rfl rfl (by decide +kernel)
theorem w_c13 : cw13.before args0 about1 = true := code_word (m := ⟨16, 1⟩) (meth := k16m1) (c := k16c1) (by decide +kernel) rfl rfl rfl (by decide +kernel)
theorem w_c14 : cw14.before args0 about1 = true := code_word (m := ⟨17, 1⟩) (meth := k17m1) (c := k17c1) (by decide +kernel) rfl rfl rfl (by decide +kernel)
theorem w_c15 : cw15.before args0 about1 = true := code_word (m := ⟨18, 1⟩) (meth := k18m1) (c := k18c1) (by decide +kernel) rfl rfl rfl (by decide +kernel)
theorem w_c16 : cw16.before args0 about1 = true := code_word (m := ⟨17, 2⟩) (meth := k17m2) (c := k17c2) (by decide +kernel) rfl rfl rfl (by decide +kernel)
theorem w_c17 : cw17.before args0 about1 = true := code_word (m := ⟨14, 10⟩) (meth := k14m10) (c := k14c10) (by decide +kernel) rfl rfl rfl (by decide +kernel)
theorem w_c18 : cw18.before args0 about1 = true := code_word (m := ⟨14, 9⟩) (meth := k14m9) (c := k14c9) (by decide +kernel) rfl rfl rfl (by decide +kernel)
theorem w_c19 : cw19.before args0 about1 = true := code_word (m := ⟨7, 6⟩) (meth := k7m6) (c := k7c6) (by decide +kernel) rfl rfl rfl (by decide +kernel)
theorem w_c20 : cw20.before args0 about1 = true := code_word (m := ⟨15, 2⟩) (meth := k15m2) (c := k15c2) (by decide +kernel) rfl rfl rfl (by decide +kernel)
theorem w_c21 : cw21.before args0 about1 = true := code_word (m := ⟨7, 2⟩) (meth := k7m2) (c := k7c2) (by decide +kernel) rfl rfl rfl (by decide +kernel)
theorem w_c22 : cw22.before args0 about1 = true := code_word (m := ⟨7, 8⟩) (meth := k7m8) (c := k7c8) (by decide +kernel) rfl rfl rfl (by decide +kernel)
theorem w_c23 : cw23.before args0 about1 = true := code_word (m := ⟨14, 7⟩) (meth := k14m7) (c := k14c7) (by decide +kernel) rfl rfl rfl (by decide +kernel)
theorem w_c24 : cw24.before args0 about1 = true := code_word (m := ⟨15, 3⟩) (meth := k15m3) (c := k15c3) (by decide +kernel) rfl rfl rfl (by decide +kernel)
theorem w_c25 : cw25.before args0 about1 = true := code_word (m := ⟨14, 2⟩) (meth := k14m2) (c := k14c2) (by decide +kernel) rfl rfl rfl (by decide +kernel)
theorem w_c26 : cw26.before args0 about1 = true := code_word (m := ⟨14, 8⟩) (meth := k14m8) (c := k14c8) (by decide +kernel) rfl rfl rfl (by decide +kernel)
theorem w_c27 : cw27.before args0 about1 = true := code_word (m := ⟨18, 3⟩) (meth := k18m3) (c := k18c3) (by decide +kernel) rfl rfl rfl (by decide +kernel)
theorem w_c28 : cw28.before args0 about1 = true := code_word (m := ⟨18, 4⟩) (meth := k18m4) (c := k18c4) (by decide +kernel) rfl rfl rfl (by decide +kernel)
theorem w_c29 : cw29.before args0 about1 = true := code_word (m := ⟨18, 2⟩) (meth := k18m2) (c := k18c2) (by decide +kernel) rfl rfl rfl (by decide +kernel)
theorem w_c30 : cw30.before args0 about1 = true := code_word (m := ⟨10, 0⟩) (meth := k10m0) (c := k10c0) (by decide +kernel) rfl rfl rfl (by decide +kernel)
theorem w_c31 : cw31.before args0 about1 = true := code_word (m := ⟨9, 1⟩) (meth := k9m1) (c := k9c1) (by decide +kernel) rfl rfl rfl (by decide +kernel)
theorem w_c32 : cw32.before args0 about1 = true := code_word (m := ⟨8, 1⟩) (meth := k8m1) (c := k8c1) (by decide +kernel) rfl rfl rfl (by decide +kernel)
theorem w_c33 : cw33.before args0 about1 = true := code_word (m := ⟨10, 2⟩) (meth := k10m2) (c := k10c2) (by decide +kernel) rfl rfl rfl (by decide +kernel)
theorem w_c34 : cw34.before args0 about1 = true := code_word (m := ⟨8, 2⟩) (meth := k8m2) (c := k8c2) (by decide +kernel) rfl rfl rfl (by decide +kernel)
theorem w_c35 : cw35.before args0 about1 = true := code_word (m := ⟨7, 4⟩) (meth := k7m4) (c := k7c4) (by decide +kernel) rfl rfl rfl (by decide +kernel)
theorem w_c36 : cw36.before args0 about1 = true := code_word (m := ⟨20, 2⟩) (meth := k20m2) (c := k20c2) (by decide +kernel) rfl rfl rfl (by decide +kernel)
theorem w_c37 : cw37.before args0 about1 = true := code_word (m := ⟨21, 8⟩) (meth := k21m8) (c := k21c8) (by decide +kernel) rfl rfl rfl (by decide +kernel)
theorem w_c38 : cw38.before args0 about1 = true := code_word (m := ⟨21, 9⟩) (meth := k21m9) (c := k21c9) (by decide +kernel) rfl rfl rfl (by decide +kernel)
theorem w_c39 : cw39.before args0 about1 = true := code_word (m := ⟨21, 7⟩) (meth := k21m7) (c := k21c7) (by decide +kernel) rfl rfl rfl (by decide +kernel)
theorem w_c40 : cw40.before args0 about1 = true := code_word (m := ⟨21, 6⟩) (meth := k21m6) (c := k21c6) (by decide +kernel) rfl rfl rfl (by decide +kernel)
theorem w_c41 : cw41.before args0 about1 = true := code_word (m := ⟨21, 1⟩) (meth := k21m1) (c := k21c1) (by decide +kernel) rfl rfl rfl (by decide +kernel)
theorem w_c42 : cw42.before args0 about1 = true := code_word (m := ⟨21, 2⟩) (meth := k21m2) (c := k21c2) (by decide +kernel) rfl rfl rfl (by decide +kernel)
theorem w_c43 : cw43.before args0 about1 = true := code_word (m := ⟨21, 3⟩) (meth := k21m3) (c := k21c3) (by decide +kernel) rfl rfl rfl (by decide +kernel)
theorem w_c44 : cw44.before args0 about1 = true := code_word (m := ⟨21, 4⟩) (meth := k21m4) (c := k21c4) (by decide +kernel) rfl rfl rfl (by decide +kernel)
theorem w_c45 : cw45.before args0 about1 = true := code_word (m := ⟨14, 5⟩) (meth := k14m5) (c := k14c5) (by decide +kernel) rfl rfl rfl (by decide +kernel)
theorem w_c46 : cw46.before args0 about1 = true := code_word (m := ⟨20, 4⟩) (meth := k20m4) (c := k20c4) (by decide +kernel) rfl rfl rfl (by decide +kernel)
theorem w_c47 : cw47.before args0 about1 = true := code_word (m := ⟨21, 11⟩) (meth := k21m11) (c := k21c11) (by decide +kernel) rfl rfl rfl (by decide +kernel)
theorem w_c48 : cw48.before args0 about1 = true := code_word (m := ⟨21, 12⟩) (meth := k21m12) (c := k21c12) (by decide +kernel) rfl rfl rfl (by decide +kernel)
theorem w_c49 : cw49.before args0 about1 = true := code_word (m := ⟨21, 5⟩) (meth := k21m5) (c := k21c5) (by decide +kernel) rfl rfl rfl (by decide +kernel)
theorem w_c50 : cw50.before args0 about1 = true := code_word (m := ⟨7, 11⟩) (meth := k7m11) (c := k7c11) (by decide +kernel) rfl rfl rfl (by decide +kernel)
theorem w_c51 : cw51.before args0 about1 = true := code_word (m := ⟨22, 1⟩) (meth := k22m1) (c := k22c1) (by decide +kernel) rfl rfl rfl (by decide +kernel)
theorem w_c52 : cw52.before args0 about1 = true := code_word (m := ⟨7, 5⟩) (meth := k7m5) (c := k7c5) (by decide +kernel) rfl rfl rfl (by decide +kernel)
theorem w_c53 : cw53.before args0 about1 = true := code_word (m := ⟨20, 1⟩) (meth := k20m1) (c := k20c1) (by decide +kernel) rfl rfl rfl (by decide +kernel)
theorem w_c54 : cw54.before args0 about1 = true := code_word (m := ⟨20, 3⟩) (meth := k20m3) (c := k20c3) (by decide +kernel) rfl rfl rfl (by decide +kernel)
theorem w_c55 : cw55.before args0 about1 = true := code_word (m := ⟨7, 9⟩) (meth := k7m9) (c := k7c9) (by decide +kernel) rfl rfl rfl (by decide +kernel)
theorem w_c56 : cw56.before args0 about1 = true := code_word (m := ⟨21, 10⟩) (meth := k21m10) (c := k21c10) (by decide +kernel) rfl rfl rfl (by decide +kernel)
def codes1 : List Jvm.Cond := [Jvm.Cond.code x code maxLocals ret, cw1, cw2, cw3, cw4, cw5, cw6, cw7, cw8, cw9, cw10, cw11, cw12, cw13, cw14, cw15, cw16, cw17, cw18, cw19, cw20, cw21, cw22, cw23, cw24, cw25, cw26, cw27, cw28, cw29, cw30, cw31, cw32, cw33, cw34, cw35, cw36, cw37, cw38, cw39, cw40, cw41, cw42, cw43, cw44, cw45, cw46, cw47, cw48, cw49, cw50, cw51, cw52, cw53, cw54, cw55, cw56]
theorem codes_eq : words1.filter isCode = codes1 := rfl
theorem w_codes : ∀ c ∈ words1.filter isCode, c.before args0 about1 = true := by
  rw [codes_eq]
  intro c hc
  simp only [codes1, List.mem_cons, List.not_mem_nil, or_false] at hc
  rcases hc with rfl | rfl | rfl | rfl | rfl | rfl | rfl | rfl | rfl | rfl | rfl | rfl | rfl | rfl | rfl | rfl | rfl | rfl | rfl | rfl | rfl | rfl | rfl | rfl | rfl | rfl | rfl | rfl | rfl | rfl | rfl | rfl | rfl | rfl | rfl | rfl | rfl | rfl | rfl | rfl | rfl | rfl | rfl | rfl | rfl | rfl | rfl | rfl | rfl | rfl | rfl | rfl | rfl | rfl | rfl | rfl | rfl
  · exact w_c0
  · exact w_c1
  · exact w_c2
  · exact w_c3
  · exact w_c4
  · exact w_c5
  · exact w_c6
  · exact w_c7
  · exact w_c8
  · exact w_c9
  · exact w_c10
  · exact w_c11
  · exact w_c12
  · exact w_c13
  · exact w_c14
  · exact w_c15
  · exact w_c16
  · exact w_c17
  · exact w_c18
  · exact w_c19
  · exact w_c20
  · exact w_c21
  · exact w_c22
  · exact w_c23
  · exact w_c24
  · exact w_c25
  · exact w_c26
  · exact w_c27
  · exact w_c28
  · exact w_c29
  · exact w_c30
  · exact w_c31
  · exact w_c32
  · exact w_c33
  · exact w_c34
  · exact w_c35
  · exact w_c36
  · exact w_c37
  · exact w_c38
  · exact w_c39
  · exact w_c40
  · exact w_c41
  · exact w_c42
  · exact w_c43
  · exact w_c44
  · exact w_c45
  · exact w_c46
  · exact w_c47
  · exact w_c48
  · exact w_c49
  · exact w_c50
  · exact w_c51
  · exact w_c52
  · exact w_c53
  · exact w_c54
  · exact w_c55
  · exact w_c56
theorem w_t1 : (words1.take 24).all (fun c => isCode c || c.before args0 about1) = true := by decide +kernel
theorem w_t2 : ((words1.drop 24).take 24).all (fun c => isCode c || c.before args0 about1) = true := by decide +kernel
theorem w_t3 : (((words1.drop 24).drop 24).take 24).all (fun c => isCode c || c.before args0 about1) = true := by decide +kernel
theorem w_t4 : ((((words1.drop 24).drop 24).drop 24).take 24).all (fun c => isCode c || c.before args0 about1) = true := by decide +kernel
theorem w_t5 : (((((words1.drop 24).drop 24).drop 24).drop 24).take 24).all (fun c => isCode c || c.before args0 about1) = true := by decide +kernel
theorem w_t6 : ((((((words1.drop 24).drop 24).drop 24).drop 24).drop 24).take 24).all (fun c => isCode c || c.before args0 about1) = true := by decide +kernel
theorem w_t7 : (((((((words1.drop 24).drop 24).drop 24).drop 24).drop 24).drop 24).take 24).all (fun c => isCode c || c.before args0 about1) = true := by decide +kernel
theorem w_t8 : ((((((((words1.drop 24).drop 24).drop 24).drop 24).drop 24).drop 24).drop 24).take 24).all (fun c => isCode c || c.before args0 about1) = true := by decide +kernel
theorem w_t9 : (((((((((words1.drop 24).drop 24).drop 24).drop 24).drop 24).drop 24).drop 24).drop 24).take 24).all (fun c => isCode c || c.before args0 about1) = true := by decide +kernel
theorem w_t10 : ((((((((((words1.drop 24).drop 24).drop 24).drop 24).drop 24).drop 24).drop 24).drop 24).drop 24).take 24).all (fun c => isCode c || c.before args0 about1) = true := by decide +kernel
theorem w_t11 : (((((((((((words1.drop 24).drop 24).drop 24).drop 24).drop 24).drop 24).drop 24).drop 24).drop 24).drop 24).take 24).all (fun c => isCode c || c.before args0 about1) = true := by decide +kernel
theorem w_t12 : (((((((((((words1.drop 24).drop 24).drop 24).drop 24).drop 24).drop 24).drop 24).drop 24).drop 24).drop 24).drop 24).all (fun c => isCode c || c.before args0 about1) = true := by decide +kernel
theorem w_tables : (allAtoms (Jvm.Cond.code x code maxLocals ret :: tables_1)).before args0 about1 = true := by
  rw [allAtoms_all]
  show words1.all (fun c => c.before args0 about1) = true
  refine all_split ?_ w_codes
  rw [← List.take_append_drop 24 words1, List.all_append, w_t1, ← List.take_append_drop 24 (words1.drop 24), List.all_append, w_t2, ← List.take_append_drop 24 ((words1.drop 24).drop 24), List.all_append, w_t3, ← List.take_append_drop 24 (((words1.drop 24).drop 24).drop 24), List.all_append, w_t4, ← List.take_append_drop 24 ((((words1.drop 24).drop 24).drop 24).drop 24), List.all_append, w_t5, ← List.take_append_drop 24 (((((words1.drop 24).drop 24).drop 24).drop 24).drop 24), List.all_append, w_t6, ← List.take_append_drop 24 ((((((words1.drop 24).drop 24).drop 24).drop 24).drop 24).drop 24), List.all_append, w_t7, ← List.take_append_drop 24 (((((((words1.drop 24).drop 24).drop 24).drop 24).drop 24).drop 24).drop 24), List.all_append, w_t8, ← List.take_append_drop 24 ((((((((words1.drop 24).drop 24).drop 24).drop 24).drop 24).drop 24).drop 24).drop 24), List.all_append, w_t9, ← List.take_append_drop 24 (((((((((words1.drop 24).drop 24).drop 24).drop 24).drop 24).drop 24).drop 24).drop 24).drop 24), List.all_append, w_t10, ← List.take_append_drop 24 ((((((((((words1.drop 24).drop 24).drop 24).drop 24).drop 24).drop 24).drop 24).drop 24).drop 24).drop 24), List.all_append, w_t11, w_t12]
  rfl
theorem w_rest : rest_1_c.before args0 about1 = true := by decide +kernel
theorem w_case : (Jvm.Cond.and given_1 narrow_1).before args0 about1 = true := by decide +kernel
theorem w_consts : constsHeld consts_1 about1 := Jvm.Lit.constsHeldB_iff.mp (by decide +kernel)
theorem w_applies : (headSpec (Jvm.Cond.code x code maxLocals ret :: tables_1) room_1).applies x e0.platform about1 = true :=
  (Spec.applies_iff w_frames).mpr ⟨w_running, w_runnable, w_alone, w_named, w_hears, w_ripe, w_room, w_tables⟩
theorem atStart : AtStart classFile x code maxLocals ret World_1 tables_1 room_1 Calls_1 rest_1 Pre_1 launch0 p0 e0 about1 theMethod args0 below0 :=
  ⟨lists_1, trivial, launch0.admits_env _ _ _, launch0.least_env, fairChoices_fair.cas, fairChoices_fair.clock, w_frames, w_args, w_heap, w_applies, ⟨w_consts, trivial⟩, w_rest, w_case⟩
end start1
theorem witness_1 : WitnessClaimed_1 := ⟨start1.p0, start1.e0, start1.about1, start1.theMethod, start1.args0, start1.below0, start1.atStart⟩
end Jvm.Pilot.@@N@@
